/- Part 14 of the proof about FnCharstring. -/
import Derived.Test.YtbepljmeflndkaaGreatDoorQ13
namespace Go.Proofs.YtbepljmeflndkaaGreatDoor
open Go.Eng Go.Fl
set_option maxRecDepth 100000
attribute [local irreducible] IntKind.wrap Int.tdiv Int.tmod Int.emod maxLen F G
theorem out_mid2 {P : Program} {w0 : World} {S : List Nat} {f : Nat} {args : Array Value} {ι : Type} {φ : ι → Prop} {vv : ι → Value} {A H1 R : Heap} {H2 : ι → Heap}
    (hc : ∀ w, Hp w0 S (A ++ (H1 ++ R)) w → Hp w (H1.map (·.1)) H1 w → Calls P f args w (Out w (H1.map (·.1)) φ vv H2)) : ∀ w, Hp w0 S (A ++ (H1 ++ R)) w → Calls P f args w (Out w0 S φ vv (fun x => A ++ (H2 x ++ R))) := by
  intro w hw
  have hp : ∀ X : Heap, (A ++ (X ++ R)).Perm (X ++ (A ++ R)) := fun X => by
    rw [← List.append_assoc, ← List.append_assoc]
    exact List.perm_append_comm.append_right R
  exact (out_frame hw (hp H1) (hc w hw (hw.perm (hp H1)).self)).mono fun e w' ⟨x, hx, he, hH⟩ => ⟨x, hx, he, hH.perm (hp (H2 x)).symm⟩
theorem RdE.into2 {w0 w : World} {S : List Nat} {H : Heap} {b c : Blk} {A : Option Addr} {j : Nat} {v : Value} (h : RdE w0 S A j v) (hw : Hp w0 S (c :: b :: H) w) : RdE w [b.1] A j v :=
  h.into (hw.sub (H' := [b]) (.cons (.there .here) (.skip .nil)))
set_option maxHeartbeats 8000000 in
theorem ap_11 (w : World) (bM bH M : Nat) (Mc : List Value) (lo gl : Value) (ins : Value) (fr : List Value) (vn hn : Nat) (v7 : Value) (sm : Bool) (st : List Int) (v0 : Value) (hv1 : v0.cells = #[v0]) (hv2 : v0.oneCell' = true) (hvn : vn ≤ 1000000) (hhn : hn ≤ 1000000) (wq : Int) (q : QSt) (so : Sv) (hst : st.length ≤ 48) (hq : ∀ q ∈ st, Opd q) (hm : MOk Mc lo gl ins (fr ++ [v0]) st) (hM : M + 120 * 2147483648 < 2 ^ 53) (hB : q.Bd M) (hok : slOk so q.out.length 7 (encG q.out)) (hlen : q.out.length ≤ 70000) (hw : Hp w (((bM, Mc, 95) :: (HB bH so q.out.length q.bx (.int .i32 (vn : Nat)) (.int .i32 (hn : Nat)) v7 q.x q.y q.fx q.fy q.io (.bool sm) ((q.bx).isSome) ([.float .f64 (F 0), .float .f64 (F wq)])) :: slH so (encG q.out) 77).map (·.1)) ((bM, Mc, 95) :: (HB bH so q.out.length q.bx (.int .i32 (vn : Nat)) (.int .i32 (hn : Nat)) v7 q.x q.y q.fx q.fy q.io (.bool sm) ((q.bx).isSome) ([.float .f64 (F 0), .float .f64 (F wq)])) :: slH so (encG q.out) 77) w) : Calls Tryz.prog 116 [.pointer (some ⟨bH, 0, none⟩), .pointer (some ⟨bM, 0, none⟩), .agg #[.int .u8 11, .bool false]].toArray w (Out w (((bM, Mc, 95) :: (HB bH so q.out.length q.bx (.int .i32 (vn : Nat)) (.int .i32 (hn : Nat)) v7 q.x q.y q.fx q.fy q.io (.bool sm) ((q.bx).isSome) ([.float .f64 (F 0), .float .f64 (F wq)])) :: slH so (encG q.out) 77).map (·.1)) (fun z : List Value × Int × Sv => MOk z.1 lo gl v0 fr st ∧ slOk z.2.2 (q).out.length 7 (encG (q).out)) (fun z => .nilIface) (fun z => (bM, z.1, 95) :: (HB bH z.2.2 (q).out.length ((q).bx) (.int .i32 (vn : Nat)) (.int .i32 (hn : Nat)) v7 ((q).x) ((q).y) ((q).fx) ((q).fy) ((q).io) (.bool sm) (((q).bx).isSome) ([.float .f64 (F 0), .float .f64 (F z.2.1)])) :: slH z.2.2 (encG (q).out) 77)) := by
 have hml := hm.len
 have hms := hm.stl
 refine enter (n := 285) Tryz.func116 rfl rfl rfl hw ?_
 refine cR ?_
 refine l_gives rfl rfl (g_box (vs := [_, _]) rfl rfl) rfl ?_
 intro b5 hb5
 refine lA rfl ?_
 refine nR ?_
 refine lA rfl ?_
 refine nQ ?_
 refine c_seq ?_
 refine cR ?_
 refine lV (y_fieldAddr fo_117_1 rfl) ?_
 refine lV (y_load1 ld_4 rfl m0 rfl) ?_
 refine lV (y_not rfl) ?_
 refine nQ ?_
 refine c_true rfl rfl ?_
 refine cR ?_
 refine lV (y_fieldAddr fo_117_0 rfl) ?_
 refine lV (y_load1 ld_5 rfl m0 rfl) ?_
 refine nQ ?_
 refine c_block ?_
 refine cR ?_
 refine lB rfl rfl rfl rfl ?_
 refine lA rfl ?_
 refine nQ ?_
 refine c_true rfl rfl ?_
 refine cR ?_
 refine lM rfl ?_
 refine l_call ok_117 rfl rfl (out_one [_] (b := (bM, Mc, 95)) (fun w9 ha_ hb_ => f117_any w9 bM Mc lo gl ins v0 fr st hv1 hv2 hm hb_)) ?_
 intro _ _
 have hm2 := hm.popFr.setIns v0
 refine lA rfl ?_
 refine nQ ?_
 refine c_ret ?_
 refine q_block_ret ?_
 refine q_then_ret ?_
 exact body_ret (rs := [.tmp 6]) rfl (vs := [.nilIface]) ⟨rfl, trivial⟩ (out_end (((Mc.set 13 (.int .i32 (fr.length : Nat))).set 2 v0), wq, so) ⟨hm2, hok⟩ rfl (.skip .refl)) _ (.inr rfl)
set_option maxHeartbeats 8000000 in
theorem ap_10 (w : World) (bM bH M : Nat) (Mc : List Value) (ins : Value) (fr : List Value) (vn hn : Nat) (v7 : Value) (sm : Bool) (s : List Int) (k : Int) (j : Nat) (Alo Agl Ai : Option Addr) (cLo cGl nlo ngl m ci : Nat) (hk : k + 107 = j) (hkb : -32768 ≤ k ∧ k ≤ 32768) (hj : j < nlo) (hl3 : nlo ≤ 300) (hf : fr.length < 10) (hi1 : ins.cells = #[ins]) (hi2 : ins.oneCell' = true) (hvn : vn ≤ 1000000) (hhn : hn ≤ 1000000) (wq : Int) (q : QSt) (so : Sv) (hst : (s ++ [k * 65536]).length ≤ 48) (hq : ∀ q ∈ (s ++ [k * 65536]), Opd q) (hm : MOk Mc (.slice Alo nlo cLo) (.slice Agl ngl cGl) ins fr (s ++ [k * 65536])) (hM : M + 120 * 2147483648 < 2 ^ 53) (hB : q.Bd M) (hok : slOk so q.out.length 7 (encG q.out)) (hlen : q.out.length ≤ 70000) (hE : RdE w (((bM, Mc, 95) :: (HB bH so q.out.length q.bx (.int .i32 (vn : Nat)) (.int .i32 (hn : Nat)) v7 q.x q.y q.fx q.fy q.io (.bool sm) ((q.bx).isSome) ([.float .f64 (F 0), .float .f64 (F wq)])) :: slH so (encG q.out) 77).map (·.1)) Alo j (.slice Ai m ci)) (hw : Hp w (((bM, Mc, 95) :: (HB bH so q.out.length q.bx (.int .i32 (vn : Nat)) (.int .i32 (hn : Nat)) v7 q.x q.y q.fx q.fy q.io (.bool sm) ((q.bx).isSome) ([.float .f64 (F 0), .float .f64 (F wq)])) :: slH so (encG q.out) 77).map (·.1)) ((bM, Mc, 95) :: (HB bH so q.out.length q.bx (.int .i32 (vn : Nat)) (.int .i32 (hn : Nat)) v7 q.x q.y q.fx q.fy q.io (.bool sm) ((q.bx).isSome) ([.float .f64 (F 0), .float .f64 (F wq)])) :: slH so (encG q.out) 77) w) : Calls Tryz.prog 116 [.pointer (some ⟨bH, 0, none⟩), .pointer (some ⟨bM, 0, none⟩), .agg #[.int .u8 10, .bool false]].toArray w (Out w (((bM, Mc, 95) :: (HB bH so q.out.length q.bx (.int .i32 (vn : Nat)) (.int .i32 (hn : Nat)) v7 q.x q.y q.fx q.fy q.io (.bool sm) ((q.bx).isSome) ([.float .f64 (F 0), .float .f64 (F wq)])) :: slH so (encG q.out) 77).map (·.1)) (fun z : List Value × Int × Sv => MOk z.1 (.slice Alo nlo cLo) (.slice Agl ngl cGl) (.slice Ai m ci) (fr ++ [ins]) s ∧ slOk z.2.2 (q).out.length 7 (encG (q).out)) (fun z => .nilIface) (fun z => (bM, z.1, 95) :: (HB bH z.2.2 (q).out.length ((q).bx) (.int .i32 (vn : Nat)) (.int .i32 (hn : Nat)) v7 ((q).x) ((q).y) ((q).fx) ((q).fy) ((q).io) (.bool sm) (((q).bx).isSome) ([.float .f64 (F 0), .float .f64 (F z.2.1)])) :: slH z.2.2 (encG (q).out) 77)) := by
 have hml := hm.len
 have hms := hm.stl
 refine enter (n := 285) Tryz.func116 rfl rfl rfl hw ?_
 refine cR ?_
 refine l_gives rfl rfl (g_box (vs := [_, _]) rfl rfl) rfl ?_
 intro b5 hb5
 refine lA rfl ?_
 refine nR ?_
 refine lA rfl ?_
 refine nQ ?_
 refine c_seq ?_
 refine cR ?_
 refine lV (y_fieldAddr fo_117_1 rfl) ?_
 refine lV (y_load1 ld_4 rfl m0 rfl) ?_
 refine lV (y_not rfl) ?_
 refine nQ ?_
 refine c_true rfl rfl ?_
 refine cR ?_
 refine lV (y_fieldAddr fo_117_0 rfl) ?_
 refine lV (y_load1 ld_5 rfl m0 rfl) ?_
 refine nQ ?_
 refine c_block ?_
 refine cR ?_
 refine lB rfl rfl rfl rfl ?_
 refine lA rfl ?_
 refine nQ ?_
 refine c_false rfl rfl ?_
 refine cR ?_
 refine lB rfl rfl rfl rfl ?_
 refine lA rfl ?_
 refine nQ ?_
 refine c_false rfl rfl ?_
 refine cR ?_
 refine lB rfl rfl rfl rfl ?_
 refine lA rfl ?_
 refine nQ ?_
 refine c_true rfl rfl ?_
 refine cR ?_
 refine lM rfl ?_
 refine l_call ok_119 rfl rfl (out_one [_] (b := (bM, Mc, 95)) (fun w9 ha_ hb_ => f119_any w9 bM Mc ins fr s Alo Agl Ai cLo cGl nlo ngl m ci k j hk hkb (hE.into2 ha_) hj hl3 hf hi1 hi2 hm hb_)) ?_
 intro _ _
 have hm2 := (hm.pop.pushFr ins hf).setIns (.slice Ai m ci)
 refine lA rfl ?_
 refine nQ ?_
 refine c_ret ?_
 refine q_block_ret ?_
 refine q_then_ret ?_
 exact body_ret (rs := [.tmp 6]) rfl (vs := [.nilIface]) ⟨rfl, trivial⟩ (out_end (((((Mc.set 527 (.int .i32 (s.length : Nat))).set (3 + fr.length * 1) ins).set 13 (.int .i32 ((fr.length + 1 : Nat) : Int))).set 2 (.slice Ai m ci)), wq, so) ⟨hm2, hok⟩ rfl (.skip .refl)) _ (.inr rfl)
set_option maxHeartbeats 8000000 in
theorem ap_29 (w : World) (bM bH M : Nat) (Mc : List Value) (ins : Value) (fr : List Value) (vn hn : Nat) (v7 : Value) (sm : Bool) (s : List Int) (k : Int) (j : Nat) (Alo Agl Ai : Option Addr) (cLo cGl nlo ngl m ci : Nat) (hk : k + 107 = j) (hkb : -32768 ≤ k ∧ k ≤ 32768) (hj : j < ngl) (hl3 : ngl ≤ 300) (hf : fr.length < 10) (hi1 : ins.cells = #[ins]) (hi2 : ins.oneCell' = true) (hvn : vn ≤ 1000000) (hhn : hn ≤ 1000000) (wq : Int) (q : QSt) (so : Sv) (hst : (s ++ [k * 65536]).length ≤ 48) (hq : ∀ q ∈ (s ++ [k * 65536]), Opd q) (hm : MOk Mc (.slice Alo nlo cLo) (.slice Agl ngl cGl) ins fr (s ++ [k * 65536])) (hM : M + 120 * 2147483648 < 2 ^ 53) (hB : q.Bd M) (hok : slOk so q.out.length 7 (encG q.out)) (hlen : q.out.length ≤ 70000) (hE : RdE w (((bM, Mc, 95) :: (HB bH so q.out.length q.bx (.int .i32 (vn : Nat)) (.int .i32 (hn : Nat)) v7 q.x q.y q.fx q.fy q.io (.bool sm) ((q.bx).isSome) ([.float .f64 (F 0), .float .f64 (F wq)])) :: slH so (encG q.out) 77).map (·.1)) Agl j (.slice Ai m ci)) (hw : Hp w (((bM, Mc, 95) :: (HB bH so q.out.length q.bx (.int .i32 (vn : Nat)) (.int .i32 (hn : Nat)) v7 q.x q.y q.fx q.fy q.io (.bool sm) ((q.bx).isSome) ([.float .f64 (F 0), .float .f64 (F wq)])) :: slH so (encG q.out) 77).map (·.1)) ((bM, Mc, 95) :: (HB bH so q.out.length q.bx (.int .i32 (vn : Nat)) (.int .i32 (hn : Nat)) v7 q.x q.y q.fx q.fy q.io (.bool sm) ((q.bx).isSome) ([.float .f64 (F 0), .float .f64 (F wq)])) :: slH so (encG q.out) 77) w) : Calls Tryz.prog 116 [.pointer (some ⟨bH, 0, none⟩), .pointer (some ⟨bM, 0, none⟩), .agg #[.int .u8 29, .bool false]].toArray w (Out w (((bM, Mc, 95) :: (HB bH so q.out.length q.bx (.int .i32 (vn : Nat)) (.int .i32 (hn : Nat)) v7 q.x q.y q.fx q.fy q.io (.bool sm) ((q.bx).isSome) ([.float .f64 (F 0), .float .f64 (F wq)])) :: slH so (encG q.out) 77).map (·.1)) (fun z : List Value × Int × Sv => MOk z.1 (.slice Alo nlo cLo) (.slice Agl ngl cGl) (.slice Ai m ci) (fr ++ [ins]) s ∧ slOk z.2.2 (q).out.length 7 (encG (q).out)) (fun z => .nilIface) (fun z => (bM, z.1, 95) :: (HB bH z.2.2 (q).out.length ((q).bx) (.int .i32 (vn : Nat)) (.int .i32 (hn : Nat)) v7 ((q).x) ((q).y) ((q).fx) ((q).fy) ((q).io) (.bool sm) (((q).bx).isSome) ([.float .f64 (F 0), .float .f64 (F z.2.1)])) :: slH z.2.2 (encG (q).out) 77)) := by
 have hml := hm.len
 have hms := hm.stl
 refine enter (n := 285) Tryz.func116 rfl rfl rfl hw ?_
 refine cR ?_
 refine l_gives rfl rfl (g_box (vs := [_, _]) rfl rfl) rfl ?_
 intro b5 hb5
 refine lA rfl ?_
 refine nR ?_
 refine lA rfl ?_
 refine nQ ?_
 refine c_seq ?_
 refine cR ?_
 refine lV (y_fieldAddr fo_117_1 rfl) ?_
 refine lV (y_load1 ld_4 rfl m0 rfl) ?_
 refine lV (y_not rfl) ?_
 refine nQ ?_
 refine c_true rfl rfl ?_
 refine cR ?_
 refine lV (y_fieldAddr fo_117_0 rfl) ?_
 refine lV (y_load1 ld_5 rfl m0 rfl) ?_
 refine nQ ?_
 refine c_block ?_
 refine cR ?_
 refine lB rfl rfl rfl rfl ?_
 refine lA rfl ?_
 refine nQ ?_
 refine c_false rfl rfl ?_
 refine cR ?_
 refine lB rfl rfl rfl rfl ?_
 refine lA rfl ?_
 refine nQ ?_
 refine c_false rfl rfl ?_
 refine cR ?_
 refine lB rfl rfl rfl rfl ?_
 refine lA rfl ?_
 refine nQ ?_
 refine c_false rfl rfl ?_
 refine cR ?_
 refine lB rfl rfl rfl rfl ?_
 refine lA rfl ?_
 refine nQ ?_
 refine c_true rfl rfl ?_
 refine cR ?_
 refine lM rfl ?_
 refine l_call ok_120 rfl rfl (out_one [_] (b := (bM, Mc, 95)) (fun w9 ha_ hb_ => f120_any w9 bM Mc ins fr s Alo Agl Ai cLo cGl nlo ngl m ci k j hk hkb (hE.into2 ha_) hj hl3 hf hi1 hi2 hm hb_)) ?_
 intro _ _
 have hm2 := (hm.pop.pushFr ins hf).setIns (.slice Ai m ci)
 refine lA rfl ?_
 refine nQ ?_
 refine c_ret ?_
 refine q_block_ret ?_
 refine q_then_ret ?_
 exact body_ret (rs := [.tmp 6]) rfl (vs := [.nilIface]) ⟨rfl, trivial⟩ (out_end (((((Mc.set 527 (.int .i32 (s.length : Nat))).set (3 + fr.length * 1) ins).set 13 (.int .i32 ((fr.length + 1 : Nat) : Int))).set 2 (.slice Ai m ci)), wq, so) ⟨hm2, hok⟩ rfl (.skip .refl)) _ (.inr rfl)
set_option maxHeartbeats 8000000 in
theorem ap_14 (w : World) (bM bH M : Nat) (Mc : List Value) (lo gl : Value) (ins : Value) (fr : List Value) (vn hn : Nat) (v7 : Value) (sm : Bool) (st : List Int) (hvn : vn ≤ 1000000) (hhn : hn ≤ 1000000) (wq : Int) (q : QSt) (so : Sv) (hst : st.length ≤ 48) (hq : ∀ q ∈ st, Opd q) (hm : MOk Mc lo gl ins fr st) (hM : M + 120 * 2147483648 < 2 ^ 53) (hB : q.Bd M) (hok : slOk so q.out.length 7 (encG q.out)) (hlen : q.out.length ≤ 70000) (hw : Hp w (((bM, Mc, 95) :: (HB bH so q.out.length q.bx (.int .i32 (vn : Nat)) (.int .i32 (hn : Nat)) v7 q.x q.y q.fx q.fy q.io (.bool sm) ((q.bx).isSome) ([.float .f64 (F 0), .float .f64 (F wq)])) :: slH so (encG q.out) 77).map (·.1)) ((bM, Mc, 95) :: (HB bH so q.out.length q.bx (.int .i32 (vn : Nat)) (.int .i32 (hn : Nat)) v7 q.x q.y q.fx q.fy q.io (.bool sm) ((q.bx).isSome) ([.float .f64 (F 0), .float .f64 (F wq)])) :: slH so (encG q.out) 77) w) : Calls Tryz.prog 116 [.pointer (some ⟨bH, 0, none⟩), .pointer (some ⟨bM, 0, none⟩), .agg #[.int .u8 14, .bool false]].toArray w (Out w (((bM, Mc, 95) :: (HB bH so q.out.length q.bx (.int .i32 (vn : Nat)) (.int .i32 (hn : Nat)) v7 q.x q.y q.fx q.fy q.io (.bool sm) ((q.bx).isSome) ([.float .f64 (F 0), .float .f64 (F wq)])) :: slH so (encG q.out) 77).map (·.1)) (fun z : List Value × Int × Sv => MOk z.1 lo gl ins fr st ∧ slOk z.2.2 (endQ q).out.length 7 (encG (endQ q).out)) (fun z => (.iface 114 (.string { data := #[105, 110, 116, 101, 114, 114, 117, 112, 116, 105, 111, 110] }))) (fun z => (bM, z.1, 95) :: (HB bH z.2.2 (endQ q).out.length ((endQ q).bx) (.int .i32 (vn : Nat)) (.int .i32 (hn : Nat)) v7 ((endQ q).x) ((endQ q).y) ((endQ q).fx) ((endQ q).fy) ((endQ q).io) (.bool sm) (((endQ q).bx).isSome) ([.float .f64 (F 0), .float .f64 (F z.2.1)])) :: slH z.2.2 (encG (endQ q).out) 77)) := by
 have hml := hm.len
 have hms := hm.stl
 refine enter (n := 285) Tryz.func116 rfl rfl rfl hw ?_
 refine cR ?_
 refine l_gives rfl rfl (g_box (vs := [_, _]) rfl rfl) rfl ?_
 intro b5 hb5
 refine lA rfl ?_
 refine nR ?_
 refine lA rfl ?_
 refine nQ ?_
 refine c_seq ?_
 refine cR ?_
 refine lV (y_fieldAddr fo_117_1 rfl) ?_
 refine lV (y_load1 ld_4 rfl m0 rfl) ?_
 refine lV (y_not rfl) ?_
 refine nQ ?_
 refine c_true rfl rfl ?_
 refine cR ?_
 refine lV (y_fieldAddr fo_117_0 rfl) ?_
 refine lV (y_load1 ld_5 rfl m0 rfl) ?_
 refine nQ ?_
 refine c_block ?_
 refine cR ?_
 refine lB rfl rfl rfl rfl ?_
 refine lA rfl ?_
 refine nQ ?_
 refine c_false rfl rfl ?_
 refine cR ?_
 refine lB rfl rfl rfl rfl ?_
 refine lA rfl ?_
 refine nQ ?_
 refine c_true rfl rfl ?_
 refine c_seq ?_
 refine cR ?_
 refine lM rfl ?_
 refine lN rfl ?_
 refine lV (y_fieldAddr fo_95_4 rfl) ?_
 refine lV (y_fieldAddr fo_91_1 rfl) ?_
 refine lV (y_load1 ld_21 rfl m1 hm.tp) ?_
 refine lB rfl rfl rfl rfl ?_
 refine nQ ?_
 refine c_cond rfl (fun hc25 => ?_) (fun hc25 => ?_)
 ·obtain ⟨a0, h0⟩ := at_of (l := st) (i := 0) (by simp only [decide_eq_true_eq] at hc25; omega)
  have n0 := at_opd hq h0
  refine c_draw [(bM, Mc, 95)] mixed rfl ?_
  refine dM 0 rfl rfl ?_
  refine dM 1 rfl rfl ?_
  refine dN 2 rfl rfl ?_
  refine dV 3 rfl (y_fieldAddr fo_99_1 rfl) ?_
  refine dM 5 rfl rfl ?_
  refine dN 6 rfl rfl ?_
  refine dV 7 rfl (y_fieldAddr fo_95_4 rfl) ?_
  refine dV 8 rfl (y_fieldAddr fo_91_0 rfl) ?_
  refine dV 9 rfl (y_indexArr (j := 0) ar_89 rfl rfl (blt_of (by omega))) ?_
  refine dV 10 rfl (y_load1 ld_41 rfl m0 (hm.ops _ _ h0)) ?_
  refine d_ready (i := 4) (rs := []) (by kernel_rfl) (.cons (.there .here) .nil) (all_one ?_)
  refine o_gives rfl rfl rfl (gy (y_load1 ld_41 rfl m2 rfl)) rfl ?_
  intro _ _
  refine dV 11 rfl (y_fadd (a := 0) (b := a0) rfl rfl (by decide) (RF_F (by omega)) (by omega)) ?_
  refine dN 12 rfl rfl ?_
  refine dV 13 rfl (y_fieldAddr fo_99_2 rfl) ?_
  refine d_ready (i := 14) (rs := []) (by kernel_rfl) (.cons (.there .here) .nil) (all_one ?_)
  refine o_does rfl rfl rfl (g_store1 (cs' := _ :: _ :: _ :: _ :: _ :: _ :: _ :: _ :: _ :: _ :: _ :: _ :: _ :: _ :: _ :: _ :: _ :: _) sz_41 rfl rfl (by first | rfl | exact slV_cells _ _ | exact fvV_cells _ _) rfl (by first | rfl | exact slV_one _ _ | exact fvV_one _ _) rfl (.there (.there .here))) ?_
  intro _ _
  refine d_end (by kernel_rfl) (.cons (.there .here) .nil) ?_
  refine qR ?_
  refine lM rfl ?_
  refine lN rfl ?_
  refine lV (y_fieldAddr fo_99_0 rfl) ?_
  refine l_call ok_118 rfl rfl (out_tail (A := [_, _]) (H1 := (HB bH so q.out.length q.bx (.int .i32 (vn : Nat)) (.int .i32 (hn : Nat)) v7 q.x q.y q.fx q.fy q.io (.bool sm) ((q.bx).isSome) ([.float .f64 (F 0), .float .f64 (F (0 + a0))])) :: slH so (encG q.out) 77) (fun w9 ha_ hb_ => f118_any w9 bH M q so (.int .i32 (vn : Nat)) (.int .i32 (hn : Nat)) v7 (.bool sm) [.float .f64 (F 0), .float .f64 (F (0 + a0))] (by omega) hB hok (by omega) hb_)) ?_
  intro ⟨out2, so2⟩ ⟨hout, hok2⟩
  simp only at hout hok2 ⊢
  subst hout
  refine nR ?_
  refine lV (y_iface ni_114 rfl) ?_
  refine lA rfl ?_
  refine nQ ?_
  refine c_ret ?_
  refine q_block_ret ?_
  refine q_then_ret ?_
  exact body_ret (rs := [.tmp 6]) rfl (vs := [(.iface 114 (.string { data := #[105, 110, 116, 101, 114, 114, 117, 112, 116, 105, 111, 110] }))]) ⟨rfl, trivial⟩ (out_end (Mc, (0 + a0), so2) ⟨hm, hok2⟩ rfl (.skip .refl)) _ (.inr rfl)
 ·refine kR ?_
  refine lM rfl ?_
  refine lN rfl ?_
  refine lV (y_fieldAddr fo_99_0 rfl) ?_
  refine l_call ok_118 rfl rfl (out_tail (A := [_, _]) (H1 := (HB bH so q.out.length q.bx (.int .i32 (vn : Nat)) (.int .i32 (hn : Nat)) v7 q.x q.y q.fx q.fy q.io (.bool sm) ((q.bx).isSome) ([.float .f64 (F 0), .float .f64 (F wq)])) :: slH so (encG q.out) 77) (fun w9 ha_ hb_ => f118_any w9 bH M q so (.int .i32 (vn : Nat)) (.int .i32 (hn : Nat)) v7 (.bool sm) [.float .f64 (F 0), .float .f64 (F wq)] (by omega) hB hok (by omega) hb_)) ?_
  intro ⟨out2, so2⟩ ⟨hout, hok2⟩
  simp only at hout hok2 ⊢
  subst hout
  refine nR ?_
  refine lV (y_iface ni_114 rfl) ?_
  refine lA rfl ?_
  refine nQ ?_
  refine c_ret ?_
  refine q_block_ret ?_
  refine q_then_ret ?_
  exact body_ret (rs := [.tmp 6]) rfl (vs := [(.iface 114 (.string { data := #[105, 110, 116, 101, 114, 114, 117, 112, 116, 105, 111, 110] }))]) ⟨rfl, trivial⟩ (out_end (Mc, wq, so2) ⟨hm, hok2⟩ rfl (.skip .refl)) _ (.inr rfl)
set_option maxHeartbeats 8000000 in
theorem ap_21 (w : World) (bM bH M : Nat) (Mc : List Value) (lo gl : Value) (ins : Value) (fr : List Value) (vn hn : Nat) (v7 : Value) (sm : Bool) (s : List Int) (a : Int) (na : -2147483648 ≤ a ∧ a ≤ 2147483648) (b : Int) (nb_ : -2147483648 ≤ b ∧ b ≤ 2147483648) (hvn : vn ≤ 1000000) (hhn : hn ≤ 1000000) (wq : Int) (q : QSt) (so : Sv) (hst : ((s ++ [a]) ++ [b]).length ≤ 48) (hq : ∀ q ∈ ((s ++ [a]) ++ [b]), Opd q) (hm : MOk Mc lo gl ins fr ((s ++ [a]) ++ [b])) (hM : M + 120 * 2147483648 < 2 ^ 53) (hB : q.Bd M) (hok : slOk so q.out.length 7 (encG q.out)) (hlen : q.out.length ≤ 70000) (hw : Hp w (((bM, Mc, 95) :: (HB bH so q.out.length q.bx (.int .i32 (vn : Nat)) (.int .i32 (hn : Nat)) v7 q.x q.y q.fx q.fy q.io (.bool sm) ((q.bx).isSome) ([.float .f64 (F 0), .float .f64 (F wq)])) :: slH so (encG q.out) 77).map (·.1)) ((bM, Mc, 95) :: (HB bH so q.out.length q.bx (.int .i32 (vn : Nat)) (.int .i32 (hn : Nat)) v7 q.x q.y q.fx q.fy q.io (.bool sm) ((q.bx).isSome) ([.float .f64 (F 0), .float .f64 (F wq)])) :: slH so (encG q.out) 77) w) : Calls Tryz.prog 116 [.pointer (some ⟨bH, 0, none⟩), .pointer (some ⟨bM, 0, none⟩), .agg #[.int .u8 21, .bool false]].toArray w (Out w (((bM, Mc, 95) :: (HB bH so q.out.length q.bx (.int .i32 (vn : Nat)) (.int .i32 (hn : Nat)) v7 q.x q.y q.fx q.fy q.io (.bool sm) ((q.bx).isSome) ([.float .f64 (F 0), .float .f64 (F wq)])) :: slH so (encG q.out) 77).map (·.1)) (fun z : List Value × Int × Sv => MOk z.1 lo gl ins fr [] ∧ slOk z.2.2 (moveQ q a b).out.length 7 (encG (moveQ q a b).out)) (fun z => .nilIface) (fun z => (bM, z.1, 95) :: (HB bH z.2.2 (moveQ q a b).out.length ((moveQ q a b).bx) (.int .i32 (vn : Nat)) (.int .i32 (hn : Nat)) v7 ((moveQ q a b).x) ((moveQ q a b).y) ((moveQ q a b).fx) ((moveQ q a b).fy) ((moveQ q a b).io) (.bool sm) (((moveQ q a b).bx).isSome) ([.float .f64 (F 0), .float .f64 (F z.2.1)])) :: slH z.2.2 (encG (moveQ q a b).out) 77)) := by
 have hml := hm.len
 have hms := hm.stl
 refine enter (n := 285) Tryz.func116 rfl rfl rfl hw ?_
 refine cR ?_
 refine l_gives rfl rfl (g_box (vs := [_, _]) rfl rfl) rfl ?_
 intro b5 hb5
 refine lA rfl ?_
 refine nR ?_
 refine lA rfl ?_
 refine nQ ?_
 refine c_seq ?_
 refine cR ?_
 refine lV (y_fieldAddr fo_117_1 rfl) ?_
 refine lV (y_load1 ld_4 rfl m0 rfl) ?_
 refine lV (y_not rfl) ?_
 refine nQ ?_
 refine c_true rfl rfl ?_
 refine cR ?_
 refine lV (y_fieldAddr fo_117_0 rfl) ?_
 refine lV (y_load1 ld_5 rfl m0 rfl) ?_
 refine nQ ?_
 refine c_block ?_
 refine cR ?_
 refine lB rfl rfl rfl rfl ?_
 refine lA rfl ?_
 refine nQ ?_
 refine c_false rfl rfl ?_
 refine cR ?_
 refine lB rfl rfl rfl rfl ?_
 refine lA rfl ?_
 refine nQ ?_
 refine c_false rfl rfl ?_
 refine cR ?_
 refine lB rfl rfl rfl rfl ?_
 refine lA rfl ?_
 refine nQ ?_
 refine c_false rfl rfl ?_
 refine cR ?_
 refine lB rfl rfl rfl rfl ?_
 refine lA rfl ?_
 refine nQ ?_
 refine c_false rfl rfl ?_
 refine cR ?_
 refine lB rfl rfl rfl rfl ?_
 refine lA rfl ?_
 refine nQ ?_
 refine c_true rfl rfl ?_
 refine c_seq ?_
 refine cR ?_
 refine lM rfl ?_
 refine lN rfl ?_
 refine lV (y_fieldAddr fo_95_4 rfl) ?_
 refine lV (y_fieldAddr fo_91_1 rfl) ?_
 refine lV (y_load1 ld_21 rfl m1 hm.tp) ?_
 refine lB rfl rfl rfl rfl ?_
 refine nQ ?_
 refine c_cond rfl (fun hc60 => ?_) (fun hc60 => ?_)
 ·obtain ⟨a0, h0⟩ := at_of (l := ((s ++ [a]) ++ [b])) (i := 0) (by simp only [decide_eq_true_eq] at hc60; omega)
  have n0 := at_opd hq h0
  refine c_draw [(bM, Mc, 95)] mixed rfl ?_
  refine dM 0 rfl rfl ?_
  refine dM 1 rfl rfl ?_
  refine dN 2 rfl rfl ?_
  refine dV 3 rfl (y_fieldAddr fo_99_1 rfl) ?_
  refine dM 5 rfl rfl ?_
  refine dN 6 rfl rfl ?_
  refine dV 7 rfl (y_fieldAddr fo_95_4 rfl) ?_
  refine dV 8 rfl (y_fieldAddr fo_91_0 rfl) ?_
  refine dV 9 rfl (y_indexArr (j := 0) ar_89 rfl rfl (blt_of (by omega))) ?_
  refine dV 10 rfl (y_load1 ld_41 rfl m0 (hm.ops _ _ h0)) ?_
  refine d_ready (i := 4) (rs := []) (by kernel_rfl) (.cons (.there .here) .nil) (all_one ?_)
  refine o_gives rfl rfl rfl (gy (y_load1 ld_41 rfl m2 rfl)) rfl ?_
  intro _ _
  refine dV 11 rfl (y_fadd (a := 0) (b := a0) rfl rfl (by decide) (RF_F (by omega)) (by omega)) ?_
  refine dN 12 rfl rfl ?_
  refine dV 13 rfl (y_fieldAddr fo_99_2 rfl) ?_
  refine d_ready (i := 14) (rs := []) (by kernel_rfl) (.cons (.there .here) .nil) (all_one ?_)
  refine o_does rfl rfl rfl (g_store1 (cs' := _ :: _ :: _ :: _ :: _ :: _ :: _ :: _ :: _ :: _ :: _ :: _ :: _ :: _ :: _ :: _ :: _ :: _) sz_41 rfl rfl (by first | rfl | exact slV_cells _ _ | exact fvV_cells _ _) rfl (by first | rfl | exact slV_one _ _ | exact fvV_one _ _) rfl (.there (.there .here))) ?_
  intro _ _
  refine d_end (by kernel_rfl) (.cons (.there .here) .nil) ?_
  refine qG ?_
  refine lM rfl ?_
  refine lN rfl ?_
  refine lV (y_fieldAddr fo_99_0 rfl) ?_
  refine lM rfl ?_
  refine l_call ok_121 rfl rfl (out_tail (A := [_]) (H1 := (bM, Mc, 95) :: (HB bH so q.out.length q.bx (.int .i32 (vn : Nat)) (.int .i32 (hn : Nat)) v7 q.x q.y q.fx q.fy q.io (.bool sm) ((q.bx).isSome) ([.float .f64 (F 0), .float .f64 (F (0 + a0))])) :: slH so (encG q.out) 77) (fun w9 ha_ hb_ => f121_any w9 bM bH M Mc lo gl ins fr s a b na nb_ hm q so (.int .i32 (vn : Nat)) (.int .i32 (hn : Nat)) v7 (.bool sm) [.float .f64 (F 0), .float .f64 (F (0 + a0))] hM hB hok hlen hb_)) ?_
  intro so2 hok2
  have hm2 := hm.pop.pop
  refine lA rfl ?_
  refine l_nil ?_
  refine q_block ?_
  refine qR ?_
  refine lM rfl ?_
  refine lN rfl ?_
  refine lV (y_fieldAddr fo_95_4 rfl) ?_
  refine l_call ok_141 rfl rfl (out_one [_] (b := (bM, ((Mc.set 527 (.int .i32 ((s ++ [a]).length : Nat))).set 527 (.int .i32 (s.length : Nat))), 95)) (fun w9 ha_ hb_ => f141_any w9 bM ((Mc.set 527 (.int .i32 ((s ++ [a]).length : Nat))).set 527 (.int .i32 (s.length : Nat))) _ _ _ _ _ hm2 hb_)) ?_
  intro _ _
  have hmC := hm2.clear
  refine nR ?_
  refine lM rfl ?_
  refine lA rfl ?_
  refine nQ ?_
  refine c_ret ?_
  exact body_ret (rs := [.tmp 6]) rfl (vs := [.nilIface]) ⟨rfl, trivial⟩ (out_end ((((Mc.set 527 (.int .i32 ((s ++ [a]).length : Nat))).set 527 (.int .i32 (s.length : Nat))).set 527 (.int .i32 0)), (0 + a0), so2) ⟨hmC, hok2⟩ rfl (.skip .refl)) _ (.inr rfl)
 ·refine kG ?_
  refine lM rfl ?_
  refine lN rfl ?_
  refine lV (y_fieldAddr fo_99_0 rfl) ?_
  refine lM rfl ?_
  refine l_call ok_121 rfl rfl (out_tail (A := [_]) (H1 := (bM, Mc, 95) :: (HB bH so q.out.length q.bx (.int .i32 (vn : Nat)) (.int .i32 (hn : Nat)) v7 q.x q.y q.fx q.fy q.io (.bool sm) ((q.bx).isSome) ([.float .f64 (F 0), .float .f64 (F wq)])) :: slH so (encG q.out) 77) (fun w9 ha_ hb_ => f121_any w9 bM bH M Mc lo gl ins fr s a b na nb_ hm q so (.int .i32 (vn : Nat)) (.int .i32 (hn : Nat)) v7 (.bool sm) [.float .f64 (F 0), .float .f64 (F wq)] hM hB hok hlen hb_)) ?_
  intro so2 hok2
  have hm2 := hm.pop.pop
  refine lA rfl ?_
  refine l_nil ?_
  refine q_block ?_
  refine qR ?_
  refine lM rfl ?_
  refine lN rfl ?_
  refine lV (y_fieldAddr fo_95_4 rfl) ?_
  refine l_call ok_141 rfl rfl (out_one [_] (b := (bM, ((Mc.set 527 (.int .i32 ((s ++ [a]).length : Nat))).set 527 (.int .i32 (s.length : Nat))), 95)) (fun w9 ha_ hb_ => f141_any w9 bM ((Mc.set 527 (.int .i32 ((s ++ [a]).length : Nat))).set 527 (.int .i32 (s.length : Nat))) _ _ _ _ _ hm2 hb_)) ?_
  intro _ _
  have hmC := hm2.clear
  refine nR ?_
  refine lM rfl ?_
  refine lA rfl ?_
  refine nQ ?_
  refine c_ret ?_
  exact body_ret (rs := [.tmp 6]) rfl (vs := [.nilIface]) ⟨rfl, trivial⟩ (out_end ((((Mc.set 527 (.int .i32 ((s ++ [a]).length : Nat))).set 527 (.int .i32 (s.length : Nat))).set 527 (.int .i32 0)), wq, so2) ⟨hmC, hok2⟩ rfl (.skip .refl)) _ (.inr rfl)
set_option maxHeartbeats 8000000 in
theorem ap_22 (w : World) (bM bH M : Nat) (Mc : List Value) (lo gl : Value) (ins : Value) (fr : List Value) (vn hn : Nat) (v7 : Value) (sm : Bool) (s : List Int) (a : Int) (na : -2147483648 ≤ a ∧ a ≤ 2147483648) (hvn : vn ≤ 1000000) (hhn : hn ≤ 1000000) (wq : Int) (q : QSt) (so : Sv) (hst : (s ++ [a]).length ≤ 48) (hq : ∀ q ∈ (s ++ [a]), Opd q) (hm : MOk Mc lo gl ins fr (s ++ [a])) (hM : M + 120 * 2147483648 < 2 ^ 53) (hB : q.Bd M) (hok : slOk so q.out.length 7 (encG q.out)) (hlen : q.out.length ≤ 70000) (hw : Hp w (((bM, Mc, 95) :: (HB bH so q.out.length q.bx (.int .i32 (vn : Nat)) (.int .i32 (hn : Nat)) v7 q.x q.y q.fx q.fy q.io (.bool sm) ((q.bx).isSome) ([.float .f64 (F 0), .float .f64 (F wq)])) :: slH so (encG q.out) 77).map (·.1)) ((bM, Mc, 95) :: (HB bH so q.out.length q.bx (.int .i32 (vn : Nat)) (.int .i32 (hn : Nat)) v7 q.x q.y q.fx q.fy q.io (.bool sm) ((q.bx).isSome) ([.float .f64 (F 0), .float .f64 (F wq)])) :: slH so (encG q.out) 77) w) : Calls Tryz.prog 116 [.pointer (some ⟨bH, 0, none⟩), .pointer (some ⟨bM, 0, none⟩), .agg #[.int .u8 22, .bool false]].toArray w (Out w (((bM, Mc, 95) :: (HB bH so q.out.length q.bx (.int .i32 (vn : Nat)) (.int .i32 (hn : Nat)) v7 q.x q.y q.fx q.fy q.io (.bool sm) ((q.bx).isSome) ([.float .f64 (F 0), .float .f64 (F wq)])) :: slH so (encG q.out) 77).map (·.1)) (fun z : List Value × Int × Sv => MOk z.1 lo gl ins fr [] ∧ slOk z.2.2 (moveQ q a 0).out.length 7 (encG (moveQ q a 0).out)) (fun z => .nilIface) (fun z => (bM, z.1, 95) :: (HB bH z.2.2 (moveQ q a 0).out.length ((moveQ q a 0).bx) (.int .i32 (vn : Nat)) (.int .i32 (hn : Nat)) v7 ((moveQ q a 0).x) ((moveQ q a 0).y) ((moveQ q a 0).fx) ((moveQ q a 0).fy) ((moveQ q a 0).io) (.bool sm) (((moveQ q a 0).bx).isSome) ([.float .f64 (F 0), .float .f64 (F z.2.1)])) :: slH z.2.2 (encG (moveQ q a 0).out) 77)) := by
 have hml := hm.len
 have hms := hm.stl
 refine enter (n := 285) Tryz.func116 rfl rfl rfl hw ?_
 refine cR ?_
 refine l_gives rfl rfl (g_box (vs := [_, _]) rfl rfl) rfl ?_
 intro b5 hb5
 refine lA rfl ?_
 refine nR ?_
 refine lA rfl ?_
 refine nQ ?_
 refine c_seq ?_
 refine cR ?_
 refine lV (y_fieldAddr fo_117_1 rfl) ?_
 refine lV (y_load1 ld_4 rfl m0 rfl) ?_
 refine lV (y_not rfl) ?_
 refine nQ ?_
 refine c_true rfl rfl ?_
 refine cR ?_
 refine lV (y_fieldAddr fo_117_0 rfl) ?_
 refine lV (y_load1 ld_5 rfl m0 rfl) ?_
 refine nQ ?_
 refine c_block ?_
 refine cR ?_
 refine lB rfl rfl rfl rfl ?_
 refine lA rfl ?_
 refine nQ ?_
 refine c_false rfl rfl ?_
 refine cR ?_
 refine lB rfl rfl rfl rfl ?_
 refine lA rfl ?_
 refine nQ ?_
 refine c_false rfl rfl ?_
 refine cR ?_
 refine lB rfl rfl rfl rfl ?_
 refine lA rfl ?_
 refine nQ ?_
 refine c_false rfl rfl ?_
 refine cR ?_
 refine lB rfl rfl rfl rfl ?_
 refine lA rfl ?_
 refine nQ ?_
 refine c_false rfl rfl ?_
 refine cR ?_
 refine lB rfl rfl rfl rfl ?_
 refine lA rfl ?_
 refine nQ ?_
 refine c_false rfl rfl ?_
 refine cR ?_
 refine lB rfl rfl rfl rfl ?_
 refine lA rfl ?_
 refine nQ ?_
 refine c_true rfl rfl ?_
 refine c_seq ?_
 refine cR ?_
 refine lM rfl ?_
 refine lN rfl ?_
 refine lV (y_fieldAddr fo_95_4 rfl) ?_
 refine lV (y_fieldAddr fo_91_1 rfl) ?_
 refine lV (y_load1 ld_21 rfl m1 hm.tp) ?_
 refine lB rfl rfl rfl rfl ?_
 refine nQ ?_
 refine c_cond rfl (fun hc87 => ?_) (fun hc87 => ?_)
 ·obtain ⟨a0, h0⟩ := at_of (l := (s ++ [a])) (i := 0) (by simp only [decide_eq_true_eq] at hc87; omega)
  have n0 := at_opd hq h0
  refine c_draw [(bM, Mc, 95)] mixed rfl ?_
  refine dM 0 rfl rfl ?_
  refine dM 1 rfl rfl ?_
  refine dN 2 rfl rfl ?_
  refine dV 3 rfl (y_fieldAddr fo_99_1 rfl) ?_
  refine dM 5 rfl rfl ?_
  refine dN 6 rfl rfl ?_
  refine dV 7 rfl (y_fieldAddr fo_95_4 rfl) ?_
  refine dV 8 rfl (y_fieldAddr fo_91_0 rfl) ?_
  refine dV 9 rfl (y_indexArr (j := 0) ar_89 rfl rfl (blt_of (by omega))) ?_
  refine dV 10 rfl (y_load1 ld_41 rfl m0 (hm.ops _ _ h0)) ?_
  refine d_ready (i := 4) (rs := []) (by kernel_rfl) (.cons (.there .here) .nil) (all_one ?_)
  refine o_gives rfl rfl rfl (gy (y_load1 ld_41 rfl m2 rfl)) rfl ?_
  intro _ _
  refine dV 11 rfl (y_fadd (a := 0) (b := a0) rfl rfl (by decide) (RF_F (by omega)) (by omega)) ?_
  refine dN 12 rfl rfl ?_
  refine dV 13 rfl (y_fieldAddr fo_99_2 rfl) ?_
  refine d_ready (i := 14) (rs := []) (by kernel_rfl) (.cons (.there .here) .nil) (all_one ?_)
  refine o_does rfl rfl rfl (g_store1 (cs' := _ :: _ :: _ :: _ :: _ :: _ :: _ :: _ :: _ :: _ :: _ :: _ :: _ :: _ :: _ :: _ :: _ :: _) sz_41 rfl rfl (by first | rfl | exact slV_cells _ _ | exact fvV_cells _ _) rfl (by first | rfl | exact slV_one _ _ | exact fvV_one _ _) rfl (.there (.there .here))) ?_
  intro _ _
  refine d_end (by kernel_rfl) (.cons (.there .here) .nil) ?_
  refine qG ?_
  refine lM rfl ?_
  refine lN rfl ?_
  refine lV (y_fieldAddr fo_99_0 rfl) ?_
  refine lM rfl ?_
  refine l_call ok_122 rfl rfl (out_tail (A := [_]) (H1 := (bM, Mc, 95) :: (HB bH so q.out.length q.bx (.int .i32 (vn : Nat)) (.int .i32 (hn : Nat)) v7 q.x q.y q.fx q.fy q.io (.bool sm) ((q.bx).isSome) ([.float .f64 (F 0), .float .f64 (F (0 + a0))])) :: slH so (encG q.out) 77) (fun w9 ha_ hb_ => f122_any w9 bM bH M Mc lo gl ins fr s a na hm q so (.int .i32 (vn : Nat)) (.int .i32 (hn : Nat)) v7 (.bool sm) [.float .f64 (F 0), .float .f64 (F (0 + a0))] hM hB hok hlen hb_)) ?_
  intro so2 hok2
  have hm2 := hm.pop
  refine lA rfl ?_
  refine l_nil ?_
  refine q_block ?_
  refine qR ?_
  refine lM rfl ?_
  refine lN rfl ?_
  refine lV (y_fieldAddr fo_95_4 rfl) ?_
  refine l_call ok_141 rfl rfl (out_one [_] (b := (bM, (Mc.set 527 (.int .i32 (s.length : Nat))), 95)) (fun w9 ha_ hb_ => f141_any w9 bM (Mc.set 527 (.int .i32 (s.length : Nat))) _ _ _ _ _ hm2 hb_)) ?_
  intro _ _
  have hmC := hm2.clear
  refine nR ?_
  refine lM rfl ?_
  refine lA rfl ?_
  refine nQ ?_
  refine c_ret ?_
  exact body_ret (rs := [.tmp 6]) rfl (vs := [.nilIface]) ⟨rfl, trivial⟩ (out_end (((Mc.set 527 (.int .i32 (s.length : Nat))).set 527 (.int .i32 0)), (0 + a0), so2) ⟨hmC, hok2⟩ rfl (.skip .refl)) _ (.inr rfl)
 ·refine kG ?_
  refine lM rfl ?_
  refine lN rfl ?_
  refine lV (y_fieldAddr fo_99_0 rfl) ?_
  refine lM rfl ?_
  refine l_call ok_122 rfl rfl (out_tail (A := [_]) (H1 := (bM, Mc, 95) :: (HB bH so q.out.length q.bx (.int .i32 (vn : Nat)) (.int .i32 (hn : Nat)) v7 q.x q.y q.fx q.fy q.io (.bool sm) ((q.bx).isSome) ([.float .f64 (F 0), .float .f64 (F wq)])) :: slH so (encG q.out) 77) (fun w9 ha_ hb_ => f122_any w9 bM bH M Mc lo gl ins fr s a na hm q so (.int .i32 (vn : Nat)) (.int .i32 (hn : Nat)) v7 (.bool sm) [.float .f64 (F 0), .float .f64 (F wq)] hM hB hok hlen hb_)) ?_
  intro so2 hok2
  have hm2 := hm.pop
  refine lA rfl ?_
  refine l_nil ?_
  refine q_block ?_
  refine qR ?_
  refine lM rfl ?_
  refine lN rfl ?_
  refine lV (y_fieldAddr fo_95_4 rfl) ?_
  refine l_call ok_141 rfl rfl (out_one [_] (b := (bM, (Mc.set 527 (.int .i32 (s.length : Nat))), 95)) (fun w9 ha_ hb_ => f141_any w9 bM (Mc.set 527 (.int .i32 (s.length : Nat))) _ _ _ _ _ hm2 hb_)) ?_
  intro _ _
  have hmC := hm2.clear
  refine nR ?_
  refine lM rfl ?_
  refine lA rfl ?_
  refine nQ ?_
  refine c_ret ?_
  exact body_ret (rs := [.tmp 6]) rfl (vs := [.nilIface]) ⟨rfl, trivial⟩ (out_end (((Mc.set 527 (.int .i32 (s.length : Nat))).set 527 (.int .i32 0)), wq, so2) ⟨hmC, hok2⟩ rfl (.skip .refl)) _ (.inr rfl)
set_option maxHeartbeats 8000000 in
theorem ap_4 (w : World) (bM bH M : Nat) (Mc : List Value) (lo gl : Value) (ins : Value) (fr : List Value) (vn hn : Nat) (v7 : Value) (sm : Bool) (s : List Int) (b : Int) (nb_ : -2147483648 ≤ b ∧ b ≤ 2147483648) (hvn : vn ≤ 1000000) (hhn : hn ≤ 1000000) (wq : Int) (q : QSt) (so : Sv) (hst : (s ++ [b]).length ≤ 48) (hq : ∀ q ∈ (s ++ [b]), Opd q) (hm : MOk Mc lo gl ins fr (s ++ [b])) (hM : M + 120 * 2147483648 < 2 ^ 53) (hB : q.Bd M) (hok : slOk so q.out.length 7 (encG q.out)) (hlen : q.out.length ≤ 70000) (hw : Hp w (((bM, Mc, 95) :: (HB bH so q.out.length q.bx (.int .i32 (vn : Nat)) (.int .i32 (hn : Nat)) v7 q.x q.y q.fx q.fy q.io (.bool sm) ((q.bx).isSome) ([.float .f64 (F 0), .float .f64 (F wq)])) :: slH so (encG q.out) 77).map (·.1)) ((bM, Mc, 95) :: (HB bH so q.out.length q.bx (.int .i32 (vn : Nat)) (.int .i32 (hn : Nat)) v7 q.x q.y q.fx q.fy q.io (.bool sm) ((q.bx).isSome) ([.float .f64 (F 0), .float .f64 (F wq)])) :: slH so (encG q.out) 77) w) : Calls Tryz.prog 116 [.pointer (some ⟨bH, 0, none⟩), .pointer (some ⟨bM, 0, none⟩), .agg #[.int .u8 4, .bool false]].toArray w (Out w (((bM, Mc, 95) :: (HB bH so q.out.length q.bx (.int .i32 (vn : Nat)) (.int .i32 (hn : Nat)) v7 q.x q.y q.fx q.fy q.io (.bool sm) ((q.bx).isSome) ([.float .f64 (F 0), .float .f64 (F wq)])) :: slH so (encG q.out) 77).map (·.1)) (fun z : List Value × Int × Sv => MOk z.1 lo gl ins fr [] ∧ slOk z.2.2 (moveQ q 0 b).out.length 7 (encG (moveQ q 0 b).out)) (fun z => .nilIface) (fun z => (bM, z.1, 95) :: (HB bH z.2.2 (moveQ q 0 b).out.length ((moveQ q 0 b).bx) (.int .i32 (vn : Nat)) (.int .i32 (hn : Nat)) v7 ((moveQ q 0 b).x) ((moveQ q 0 b).y) ((moveQ q 0 b).fx) ((moveQ q 0 b).fy) ((moveQ q 0 b).io) (.bool sm) (((moveQ q 0 b).bx).isSome) ([.float .f64 (F 0), .float .f64 (F z.2.1)])) :: slH z.2.2 (encG (moveQ q 0 b).out) 77)) := by
 have hml := hm.len
 have hms := hm.stl
 refine enter (n := 285) Tryz.func116 rfl rfl rfl hw ?_
 refine cR ?_
 refine l_gives rfl rfl (g_box (vs := [_, _]) rfl rfl) rfl ?_
 intro b5 hb5
 refine lA rfl ?_
 refine nR ?_
 refine lA rfl ?_
 refine nQ ?_
 refine c_seq ?_
 refine cR ?_
 refine lV (y_fieldAddr fo_117_1 rfl) ?_
 refine lV (y_load1 ld_4 rfl m0 rfl) ?_
 refine lV (y_not rfl) ?_
 refine nQ ?_
 refine c_true rfl rfl ?_
 refine cR ?_
 refine lV (y_fieldAddr fo_117_0 rfl) ?_
 refine lV (y_load1 ld_5 rfl m0 rfl) ?_
 refine nQ ?_
 refine c_block ?_
 refine cR ?_
 refine lB rfl rfl rfl rfl ?_
 refine lA rfl ?_
 refine nQ ?_
 refine c_false rfl rfl ?_
 refine cR ?_
 refine lB rfl rfl rfl rfl ?_
 refine lA rfl ?_
 refine nQ ?_
 refine c_false rfl rfl ?_
 refine cR ?_
 refine lB rfl rfl rfl rfl ?_
 refine lA rfl ?_
 refine nQ ?_
 refine c_false rfl rfl ?_
 refine cR ?_
 refine lB rfl rfl rfl rfl ?_
 refine lA rfl ?_
 refine nQ ?_
 refine c_false rfl rfl ?_
 refine cR ?_
 refine lB rfl rfl rfl rfl ?_
 refine lA rfl ?_
 refine nQ ?_
 refine c_false rfl rfl ?_
 refine cR ?_
 refine lB rfl rfl rfl rfl ?_
 refine lA rfl ?_
 refine nQ ?_
 refine c_false rfl rfl ?_
 refine cR ?_
 refine lB rfl rfl rfl rfl ?_
 refine lA rfl ?_
 refine nQ ?_
 refine c_true rfl rfl ?_
 refine c_seq ?_
 refine cR ?_
 refine lM rfl ?_
 refine lN rfl ?_
 refine lV (y_fieldAddr fo_95_4 rfl) ?_
 refine lV (y_fieldAddr fo_91_1 rfl) ?_
 refine lV (y_load1 ld_21 rfl m1 hm.tp) ?_
 refine lB rfl rfl rfl rfl ?_
 refine nQ ?_
 refine c_cond rfl (fun hc114 => ?_) (fun hc114 => ?_)
 ·obtain ⟨a0, h0⟩ := at_of (l := (s ++ [b])) (i := 0) (by simp only [decide_eq_true_eq] at hc114; omega)
  have n0 := at_opd hq h0
  refine c_draw [(bM, Mc, 95)] mixed rfl ?_
  refine dM 0 rfl rfl ?_
  refine dM 1 rfl rfl ?_
  refine dN 2 rfl rfl ?_
  refine dV 3 rfl (y_fieldAddr fo_99_1 rfl) ?_
  refine dM 5 rfl rfl ?_
  refine dN 6 rfl rfl ?_
  refine dV 7 rfl (y_fieldAddr fo_95_4 rfl) ?_
  refine dV 8 rfl (y_fieldAddr fo_91_0 rfl) ?_
  refine dV 9 rfl (y_indexArr (j := 0) ar_89 rfl rfl (blt_of (by omega))) ?_
  refine dV 10 rfl (y_load1 ld_41 rfl m0 (hm.ops _ _ h0)) ?_
  refine d_ready (i := 4) (rs := []) (by kernel_rfl) (.cons (.there .here) .nil) (all_one ?_)
  refine o_gives rfl rfl rfl (gy (y_load1 ld_41 rfl m2 rfl)) rfl ?_
  intro _ _
  refine dV 11 rfl (y_fadd (a := 0) (b := a0) rfl rfl (by decide) (RF_F (by omega)) (by omega)) ?_
  refine dN 12 rfl rfl ?_
  refine dV 13 rfl (y_fieldAddr fo_99_2 rfl) ?_
  refine d_ready (i := 14) (rs := []) (by kernel_rfl) (.cons (.there .here) .nil) (all_one ?_)
  refine o_does rfl rfl rfl (g_store1 (cs' := _ :: _ :: _ :: _ :: _ :: _ :: _ :: _ :: _ :: _ :: _ :: _ :: _ :: _ :: _ :: _ :: _ :: _) sz_41 rfl rfl (by first | rfl | exact slV_cells _ _ | exact fvV_cells _ _) rfl (by first | rfl | exact slV_one _ _ | exact fvV_one _ _) rfl (.there (.there .here))) ?_
  intro _ _
  refine d_end (by kernel_rfl) (.cons (.there .here) .nil) ?_
  refine qG ?_
  refine lM rfl ?_
  refine lN rfl ?_
  refine lV (y_fieldAddr fo_99_0 rfl) ?_
  refine lM rfl ?_
  refine l_call ok_123 rfl rfl (out_tail (A := [_]) (H1 := (bM, Mc, 95) :: (HB bH so q.out.length q.bx (.int .i32 (vn : Nat)) (.int .i32 (hn : Nat)) v7 q.x q.y q.fx q.fy q.io (.bool sm) ((q.bx).isSome) ([.float .f64 (F 0), .float .f64 (F (0 + a0))])) :: slH so (encG q.out) 77) (fun w9 ha_ hb_ => f123_any w9 bM bH M Mc lo gl ins fr s b nb_ hm q so (.int .i32 (vn : Nat)) (.int .i32 (hn : Nat)) v7 (.bool sm) [.float .f64 (F 0), .float .f64 (F (0 + a0))] hM hB hok hlen hb_)) ?_
  intro so2 hok2
  have hm2 := hm.pop
  refine lA rfl ?_
  refine l_nil ?_
  refine q_block ?_
  refine qR ?_
  refine lM rfl ?_
  refine lN rfl ?_
  refine lV (y_fieldAddr fo_95_4 rfl) ?_
  refine l_call ok_141 rfl rfl (out_one [_] (b := (bM, (Mc.set 527 (.int .i32 (s.length : Nat))), 95)) (fun w9 ha_ hb_ => f141_any w9 bM (Mc.set 527 (.int .i32 (s.length : Nat))) _ _ _ _ _ hm2 hb_)) ?_
  intro _ _
  have hmC := hm2.clear
  refine nR ?_
  refine lM rfl ?_
  refine lA rfl ?_
  refine nQ ?_
  refine c_ret ?_
  exact body_ret (rs := [.tmp 6]) rfl (vs := [.nilIface]) ⟨rfl, trivial⟩ (out_end (((Mc.set 527 (.int .i32 (s.length : Nat))).set 527 (.int .i32 0)), (0 + a0), so2) ⟨hmC, hok2⟩ rfl (.skip .refl)) _ (.inr rfl)
 ·refine kG ?_
  refine lM rfl ?_
  refine lN rfl ?_
  refine lV (y_fieldAddr fo_99_0 rfl) ?_
  refine lM rfl ?_
  refine l_call ok_123 rfl rfl (out_tail (A := [_]) (H1 := (bM, Mc, 95) :: (HB bH so q.out.length q.bx (.int .i32 (vn : Nat)) (.int .i32 (hn : Nat)) v7 q.x q.y q.fx q.fy q.io (.bool sm) ((q.bx).isSome) ([.float .f64 (F 0), .float .f64 (F wq)])) :: slH so (encG q.out) 77) (fun w9 ha_ hb_ => f123_any w9 bM bH M Mc lo gl ins fr s b nb_ hm q so (.int .i32 (vn : Nat)) (.int .i32 (hn : Nat)) v7 (.bool sm) [.float .f64 (F 0), .float .f64 (F wq)] hM hB hok hlen hb_)) ?_
  intro so2 hok2
  have hm2 := hm.pop
  refine lA rfl ?_
  refine l_nil ?_
  refine q_block ?_
  refine qR ?_
  refine lM rfl ?_
  refine lN rfl ?_
  refine lV (y_fieldAddr fo_95_4 rfl) ?_
  refine l_call ok_141 rfl rfl (out_one [_] (b := (bM, (Mc.set 527 (.int .i32 (s.length : Nat))), 95)) (fun w9 ha_ hb_ => f141_any w9 bM (Mc.set 527 (.int .i32 (s.length : Nat))) _ _ _ _ _ hm2 hb_)) ?_
  intro _ _
  have hmC := hm2.clear
  refine nR ?_
  refine lM rfl ?_
  refine lA rfl ?_
  refine nQ ?_
  refine c_ret ?_
  exact body_ret (rs := [.tmp 6]) rfl (vs := [.nilIface]) ⟨rfl, trivial⟩ (out_end (((Mc.set 527 (.int .i32 (s.length : Nat))).set 527 (.int .i32 0)), wq, so2) ⟨hmC, hok2⟩ rfl (.skip .refl)) _ (.inr rfl)
end Go.Proofs.YtbepljmeflndkaaGreatDoor
namespace Go.Proofs.YtbepljmeflndkaaGreatDoor
open Go.Eng Go.Fl
set_option maxRecDepth 100000
attribute [local irreducible] IntKind.wrap Int.tdiv Int.tmod Int.emod maxLen F G
set_option maxHeartbeats 8000000 in
theorem ap_1 (w : World) (bM bH M : Nat) (Mc : List Value) (lo gl : Value) (ins : Value) (fr : List Value) (vn hn : Nat) (v7 : Value) (sm : Bool) (st : List Int) (hvn : vn ≤ 1000000) (hhn : hn ≤ 1000000) (wq : Int) (q : QSt) (so : Sv) (hst : st.length ≤ 48) (hq : ∀ q ∈ st, Opd q) (hm : MOk Mc lo gl ins fr st) (hM : M + 120 * 2147483648 < 2 ^ 53) (hB : q.Bd M) (hok : slOk so q.out.length 7 (encG q.out)) (hlen : q.out.length ≤ 70000) (hw : Hp w (((bM, Mc, 95) :: (HB bH so q.out.length q.bx (.int .i32 (vn : Nat)) (.int .i32 (hn : Nat)) v7 q.x q.y q.fx q.fy q.io (.bool sm) ((q.bx).isSome) ([.float .f64 (F 0), .float .f64 (F wq)])) :: slH so (encG q.out) 77).map (·.1)) ((bM, Mc, 95) :: (HB bH so q.out.length q.bx (.int .i32 (vn : Nat)) (.int .i32 (hn : Nat)) v7 q.x q.y q.fx q.fy q.io (.bool sm) ((q.bx).isSome) ([.float .f64 (F 0), .float .f64 (F wq)])) :: slH so (encG q.out) 77) w) : Calls Tryz.prog 116 [.pointer (some ⟨bH, 0, none⟩), .pointer (some ⟨bM, 0, none⟩), .agg #[.int .u8 1, .bool false]].toArray w (Out w (((bM, Mc, 95) :: (HB bH so q.out.length q.bx (.int .i32 (vn : Nat)) (.int .i32 (hn : Nat)) v7 q.x q.y q.fx q.fy q.io (.bool sm) ((q.bx).isSome) ([.float .f64 (F 0), .float .f64 (F wq)])) :: slH so (encG q.out) 77).map (·.1)) (fun z : List Value × Int × Sv => MOk z.1 lo gl ins fr [] ∧ slOk z.2.2 (q).out.length 7 (encG (q).out)) (fun z => .nilIface) (fun z => (bM, z.1, 95) :: (HB bH z.2.2 (q).out.length ((q).bx) (.int .i32 (vn : Nat)) (.int .i32 ((hn + st.length / 2 : Nat) : Int)) v7 ((q).x) ((q).y) ((q).fx) ((q).fy) ((q).io) (.bool sm) (((q).bx).isSome) ([.float .f64 (F 0), .float .f64 (F z.2.1)])) :: slH z.2.2 (encG (q).out) 77)) := by
 have hml := hm.len
 have hms := hm.stl
 refine enter (n := 285) Tryz.func116 rfl rfl rfl hw ?_
 refine cR ?_
 refine l_gives rfl rfl (g_box (vs := [_, _]) rfl rfl) rfl ?_
 intro b5 hb5
 refine lA rfl ?_
 refine nR ?_
 refine lA rfl ?_
 refine nQ ?_
 refine c_seq ?_
 refine cR ?_
 refine lV (y_fieldAddr fo_117_1 rfl) ?_
 refine lV (y_load1 ld_4 rfl m0 rfl) ?_
 refine lV (y_not rfl) ?_
 refine nQ ?_
 refine c_true rfl rfl ?_
 refine cR ?_
 refine lV (y_fieldAddr fo_117_0 rfl) ?_
 refine lV (y_load1 ld_5 rfl m0 rfl) ?_
 refine nQ ?_
 refine c_block ?_
 refine cR ?_
 refine lB rfl rfl rfl rfl ?_
 refine lA rfl ?_
 refine nQ ?_
 refine c_false rfl rfl ?_
 refine cR ?_
 refine lB rfl rfl rfl rfl ?_
 refine lA rfl ?_
 refine nQ ?_
 refine c_false rfl rfl ?_
 refine cR ?_
 refine lB rfl rfl rfl rfl ?_
 refine lA rfl ?_
 refine nQ ?_
 refine c_false rfl rfl ?_
 refine cR ?_
 refine lB rfl rfl rfl rfl ?_
 refine lA rfl ?_
 refine nQ ?_
 refine c_false rfl rfl ?_
 refine cR ?_
 refine lB rfl rfl rfl rfl ?_
 refine lA rfl ?_
 refine nQ ?_
 refine c_false rfl rfl ?_
 refine cR ?_
 refine lB rfl rfl rfl rfl ?_
 refine lA rfl ?_
 refine nQ ?_
 refine c_false rfl rfl ?_
 refine cR ?_
 refine lB rfl rfl rfl rfl ?_
 refine lA rfl ?_
 refine nQ ?_
 refine c_false rfl rfl ?_
 refine c_seq ?_
 refine cR ?_
 refine lB rfl rfl rfl rfl ?_
 refine lA rfl ?_
 refine nQ ?_
 refine c_true rfl rfl ?_
 refine kQ ?_
 refine c_true rfl rfl ?_
 refine c_region ?_
 refine lM rfl ?_
 refine lN rfl ?_
 refine lV (y_fieldAddr fo_99_0 rfl) ?_
 refine lM rfl ?_
 refine l_call ok_124 rfl rfl (out_mid2 (A := [_]) (H1 := [(bM, Mc, 95), (HB bH so q.out.length q.bx (.int .i32 (vn : Nat)) (.int .i32 (hn : Nat)) v7 q.x q.y q.fx q.fy q.io (.bool sm) ((q.bx).isSome) ([.float .f64 (F 0), .float .f64 (F wq)]))]) (R := slH so (encG q.out) 77) (fun w9 ha_ hb_ => f124_any w9 bM bH hn (by omega) Mc lo gl ins fr st hm q so (.int .i32 (vn : Nat)) v7 (.bool sm) [.float .f64 (F 0), .float .f64 (F wq)] hb_)) ?_
 intro _ _
 refine l_nil ?_
 refine q_block ?_
 refine qR ?_
 refine lM rfl ?_
 refine lN rfl ?_
 refine lV (y_fieldAddr fo_95_4 rfl) ?_
 refine l_call ok_141 rfl rfl (out_one [_] (b := (bM, Mc, 95)) (fun w9 ha_ hb_ => f141_any w9 bM Mc _ _ _ _ _ hm hb_)) ?_
 intro _ _
 have hmC := hm.clear
 refine nR ?_
 refine lM rfl ?_
 refine lA rfl ?_
 refine nQ ?_
 refine c_ret ?_
 exact body_ret (rs := [.tmp 6]) rfl (vs := [.nilIface]) ⟨rfl, trivial⟩ (out_end ((Mc.set 527 (.int .i32 0)), wq, so) ⟨hmC, hok⟩ rfl (.skip .refl)) _ (.inr rfl)
set_option maxHeartbeats 8000000 in
theorem ap_18 (w : World) (bM bH M : Nat) (Mc : List Value) (lo gl : Value) (ins : Value) (fr : List Value) (vn hn : Nat) (v7 : Value) (sm : Bool) (st : List Int) (hvn : vn ≤ 1000000) (hhn : hn ≤ 1000000) (wq : Int) (q : QSt) (so : Sv) (hst : st.length ≤ 48) (hq : ∀ q ∈ st, Opd q) (hm : MOk Mc lo gl ins fr st) (hM : M + 120 * 2147483648 < 2 ^ 53) (hB : q.Bd M) (hok : slOk so q.out.length 7 (encG q.out)) (hlen : q.out.length ≤ 70000) (hw : Hp w (((bM, Mc, 95) :: (HB bH so q.out.length q.bx (.int .i32 (vn : Nat)) (.int .i32 (hn : Nat)) v7 q.x q.y q.fx q.fy q.io (.bool sm) ((q.bx).isSome) ([.float .f64 (F 0), .float .f64 (F wq)])) :: slH so (encG q.out) 77).map (·.1)) ((bM, Mc, 95) :: (HB bH so q.out.length q.bx (.int .i32 (vn : Nat)) (.int .i32 (hn : Nat)) v7 q.x q.y q.fx q.fy q.io (.bool sm) ((q.bx).isSome) ([.float .f64 (F 0), .float .f64 (F wq)])) :: slH so (encG q.out) 77) w) : Calls Tryz.prog 116 [.pointer (some ⟨bH, 0, none⟩), .pointer (some ⟨bM, 0, none⟩), .agg #[.int .u8 18, .bool false]].toArray w (Out w (((bM, Mc, 95) :: (HB bH so q.out.length q.bx (.int .i32 (vn : Nat)) (.int .i32 (hn : Nat)) v7 q.x q.y q.fx q.fy q.io (.bool sm) ((q.bx).isSome) ([.float .f64 (F 0), .float .f64 (F wq)])) :: slH so (encG q.out) 77).map (·.1)) (fun z : List Value × Int × Sv => MOk z.1 lo gl ins fr [] ∧ slOk z.2.2 (q).out.length 7 (encG (q).out)) (fun z => .nilIface) (fun z => (bM, z.1, 95) :: (HB bH z.2.2 (q).out.length ((q).bx) (.int .i32 (vn : Nat)) (.int .i32 ((hn + st.length / 2 : Nat) : Int)) v7 ((q).x) ((q).y) ((q).fx) ((q).fy) ((q).io) (.bool sm) (((q).bx).isSome) ([.float .f64 (F 0), .float .f64 (F z.2.1)])) :: slH z.2.2 (encG (q).out) 77)) := by
 have hml := hm.len
 have hms := hm.stl
 refine enter (n := 285) Tryz.func116 rfl rfl rfl hw ?_
 refine cR ?_
 refine l_gives rfl rfl (g_box (vs := [_, _]) rfl rfl) rfl ?_
 intro b5 hb5
 refine lA rfl ?_
 refine nR ?_
 refine lA rfl ?_
 refine nQ ?_
 refine c_seq ?_
 refine cR ?_
 refine lV (y_fieldAddr fo_117_1 rfl) ?_
 refine lV (y_load1 ld_4 rfl m0 rfl) ?_
 refine lV (y_not rfl) ?_
 refine nQ ?_
 refine c_true rfl rfl ?_
 refine cR ?_
 refine lV (y_fieldAddr fo_117_0 rfl) ?_
 refine lV (y_load1 ld_5 rfl m0 rfl) ?_
 refine nQ ?_
 refine c_block ?_
 refine cR ?_
 refine lB rfl rfl rfl rfl ?_
 refine lA rfl ?_
 refine nQ ?_
 refine c_false rfl rfl ?_
 refine cR ?_
 refine lB rfl rfl rfl rfl ?_
 refine lA rfl ?_
 refine nQ ?_
 refine c_false rfl rfl ?_
 refine cR ?_
 refine lB rfl rfl rfl rfl ?_
 refine lA rfl ?_
 refine nQ ?_
 refine c_false rfl rfl ?_
 refine cR ?_
 refine lB rfl rfl rfl rfl ?_
 refine lA rfl ?_
 refine nQ ?_
 refine c_false rfl rfl ?_
 refine cR ?_
 refine lB rfl rfl rfl rfl ?_
 refine lA rfl ?_
 refine nQ ?_
 refine c_false rfl rfl ?_
 refine cR ?_
 refine lB rfl rfl rfl rfl ?_
 refine lA rfl ?_
 refine nQ ?_
 refine c_false rfl rfl ?_
 refine cR ?_
 refine lB rfl rfl rfl rfl ?_
 refine lA rfl ?_
 refine nQ ?_
 refine c_false rfl rfl ?_
 refine c_seq ?_
 refine cR ?_
 refine lB rfl rfl rfl rfl ?_
 refine lA rfl ?_
 refine nQ ?_
 refine c_false rfl rfl ?_
 refine c_region ?_
 refine lB rfl rfl rfl rfl ?_
 refine lA rfl ?_
 refine nQ ?_
 refine c_true rfl rfl ?_
 refine c_region ?_
 refine lM rfl ?_
 refine lN rfl ?_
 refine lV (y_fieldAddr fo_99_0 rfl) ?_
 refine lM rfl ?_
 refine l_call ok_124 rfl rfl (out_mid2 (A := [_]) (H1 := [(bM, Mc, 95), (HB bH so q.out.length q.bx (.int .i32 (vn : Nat)) (.int .i32 (hn : Nat)) v7 q.x q.y q.fx q.fy q.io (.bool sm) ((q.bx).isSome) ([.float .f64 (F 0), .float .f64 (F wq)]))]) (R := slH so (encG q.out) 77) (fun w9 ha_ hb_ => f124_any w9 bM bH hn (by omega) Mc lo gl ins fr st hm q so (.int .i32 (vn : Nat)) v7 (.bool sm) [.float .f64 (F 0), .float .f64 (F wq)] hb_)) ?_
 intro _ _
 refine l_nil ?_
 refine q_block ?_
 refine qR ?_
 refine lM rfl ?_
 refine lN rfl ?_
 refine lV (y_fieldAddr fo_95_4 rfl) ?_
 refine l_call ok_141 rfl rfl (out_one [_] (b := (bM, Mc, 95)) (fun w9 ha_ hb_ => f141_any w9 bM Mc _ _ _ _ _ hm hb_)) ?_
 intro _ _
 have hmC := hm.clear
 refine nR ?_
 refine lM rfl ?_
 refine lA rfl ?_
 refine nQ ?_
 refine c_ret ?_
 exact body_ret (rs := [.tmp 6]) rfl (vs := [.nilIface]) ⟨rfl, trivial⟩ (out_end ((Mc.set 527 (.int .i32 0)), wq, so) ⟨hmC, hok⟩ rfl (.skip .refl)) _ (.inr rfl)
set_option maxHeartbeats 8000000 in
theorem ap_3 (w : World) (bM bH M : Nat) (Mc : List Value) (lo gl : Value) (ins : Value) (fr : List Value) (vn hn : Nat) (v7 : Value) (sm : Bool) (st : List Int) (hvn : vn ≤ 1000000) (hhn : hn ≤ 1000000) (wq : Int) (q : QSt) (so : Sv) (hst : st.length ≤ 48) (hq : ∀ q ∈ st, Opd q) (hm : MOk Mc lo gl ins fr st) (hM : M + 120 * 2147483648 < 2 ^ 53) (hB : q.Bd M) (hok : slOk so q.out.length 7 (encG q.out)) (hlen : q.out.length ≤ 70000) (hw : Hp w (((bM, Mc, 95) :: (HB bH so q.out.length q.bx (.int .i32 (vn : Nat)) (.int .i32 (hn : Nat)) v7 q.x q.y q.fx q.fy q.io (.bool sm) ((q.bx).isSome) ([.float .f64 (F 0), .float .f64 (F wq)])) :: slH so (encG q.out) 77).map (·.1)) ((bM, Mc, 95) :: (HB bH so q.out.length q.bx (.int .i32 (vn : Nat)) (.int .i32 (hn : Nat)) v7 q.x q.y q.fx q.fy q.io (.bool sm) ((q.bx).isSome) ([.float .f64 (F 0), .float .f64 (F wq)])) :: slH so (encG q.out) 77) w) : Calls Tryz.prog 116 [.pointer (some ⟨bH, 0, none⟩), .pointer (some ⟨bM, 0, none⟩), .agg #[.int .u8 3, .bool false]].toArray w (Out w (((bM, Mc, 95) :: (HB bH so q.out.length q.bx (.int .i32 (vn : Nat)) (.int .i32 (hn : Nat)) v7 q.x q.y q.fx q.fy q.io (.bool sm) ((q.bx).isSome) ([.float .f64 (F 0), .float .f64 (F wq)])) :: slH so (encG q.out) 77).map (·.1)) (fun z : List Value × Int × Sv => MOk z.1 lo gl ins fr [] ∧ slOk z.2.2 (q).out.length 7 (encG (q).out)) (fun z => .nilIface) (fun z => (bM, z.1, 95) :: (HB bH z.2.2 (q).out.length ((q).bx) (.int .i32 ((vn + st.length / 2 : Nat) : Int)) (.int .i32 (hn : Nat)) v7 ((q).x) ((q).y) ((q).fx) ((q).fy) ((q).io) (.bool sm) (((q).bx).isSome) ([.float .f64 (F 0), .float .f64 (F z.2.1)])) :: slH z.2.2 (encG (q).out) 77)) := by
 have hml := hm.len
 have hms := hm.stl
 refine enter (n := 285) Tryz.func116 rfl rfl rfl hw ?_
 refine cR ?_
 refine l_gives rfl rfl (g_box (vs := [_, _]) rfl rfl) rfl ?_
 intro b5 hb5
 refine lA rfl ?_
 refine nR ?_
 refine lA rfl ?_
 refine nQ ?_
 refine c_seq ?_
 refine cR ?_
 refine lV (y_fieldAddr fo_117_1 rfl) ?_
 refine lV (y_load1 ld_4 rfl m0 rfl) ?_
 refine lV (y_not rfl) ?_
 refine nQ ?_
 refine c_true rfl rfl ?_
 refine cR ?_
 refine lV (y_fieldAddr fo_117_0 rfl) ?_
 refine lV (y_load1 ld_5 rfl m0 rfl) ?_
 refine nQ ?_
 refine c_block ?_
 refine cR ?_
 refine lB rfl rfl rfl rfl ?_
 refine lA rfl ?_
 refine nQ ?_
 refine c_false rfl rfl ?_
 refine cR ?_
 refine lB rfl rfl rfl rfl ?_
 refine lA rfl ?_
 refine nQ ?_
 refine c_false rfl rfl ?_
 refine cR ?_
 refine lB rfl rfl rfl rfl ?_
 refine lA rfl ?_
 refine nQ ?_
 refine c_false rfl rfl ?_
 refine cR ?_
 refine lB rfl rfl rfl rfl ?_
 refine lA rfl ?_
 refine nQ ?_
 refine c_false rfl rfl ?_
 refine cR ?_
 refine lB rfl rfl rfl rfl ?_
 refine lA rfl ?_
 refine nQ ?_
 refine c_false rfl rfl ?_
 refine cR ?_
 refine lB rfl rfl rfl rfl ?_
 refine lA rfl ?_
 refine nQ ?_
 refine c_false rfl rfl ?_
 refine cR ?_
 refine lB rfl rfl rfl rfl ?_
 refine lA rfl ?_
 refine nQ ?_
 refine c_false rfl rfl ?_
 refine c_seq ?_
 refine cR ?_
 refine lB rfl rfl rfl rfl ?_
 refine lA rfl ?_
 refine nQ ?_
 refine c_false rfl rfl ?_
 refine c_region ?_
 refine lB rfl rfl rfl rfl ?_
 refine lA rfl ?_
 refine nQ ?_
 refine c_false rfl rfl ?_
 refine c_seq ?_
 refine cR ?_
 refine lB rfl rfl rfl rfl ?_
 refine lA rfl ?_
 refine nQ ?_
 refine c_true rfl rfl ?_
 refine kQ ?_
 refine c_true rfl rfl ?_
 refine c_region ?_
 refine lM rfl ?_
 refine lN rfl ?_
 refine lV (y_fieldAddr fo_99_0 rfl) ?_
 refine lM rfl ?_
 refine l_call ok_125 rfl rfl (out_mid2 (A := [_]) (H1 := [(bM, Mc, 95), (HB bH so q.out.length q.bx (.int .i32 (vn : Nat)) (.int .i32 (hn : Nat)) v7 q.x q.y q.fx q.fy q.io (.bool sm) ((q.bx).isSome) ([.float .f64 (F 0), .float .f64 (F wq)]))]) (R := slH so (encG q.out) 77) (fun w9 ha_ hb_ => f125_any w9 bM bH vn (by omega) Mc lo gl ins fr st hm q so (.int .i32 (hn : Nat)) v7 (.bool sm) [.float .f64 (F 0), .float .f64 (F wq)] hb_)) ?_
 intro _ _
 refine l_nil ?_
 refine q_block ?_
 refine qR ?_
 refine lM rfl ?_
 refine lN rfl ?_
 refine lV (y_fieldAddr fo_95_4 rfl) ?_
 refine l_call ok_141 rfl rfl (out_one [_] (b := (bM, Mc, 95)) (fun w9 ha_ hb_ => f141_any w9 bM Mc _ _ _ _ _ hm hb_)) ?_
 intro _ _
 have hmC := hm.clear
 refine nR ?_
 refine lM rfl ?_
 refine lA rfl ?_
 refine nQ ?_
 refine c_ret ?_
 exact body_ret (rs := [.tmp 6]) rfl (vs := [.nilIface]) ⟨rfl, trivial⟩ (out_end ((Mc.set 527 (.int .i32 0)), wq, so) ⟨hmC, hok⟩ rfl (.skip .refl)) _ (.inr rfl)
set_option maxHeartbeats 8000000 in
theorem ap_23 (w : World) (bM bH M : Nat) (Mc : List Value) (lo gl : Value) (ins : Value) (fr : List Value) (vn hn : Nat) (v7 : Value) (sm : Bool) (st : List Int) (hvn : vn ≤ 1000000) (hhn : hn ≤ 1000000) (wq : Int) (q : QSt) (so : Sv) (hst : st.length ≤ 48) (hq : ∀ q ∈ st, Opd q) (hm : MOk Mc lo gl ins fr st) (hM : M + 120 * 2147483648 < 2 ^ 53) (hB : q.Bd M) (hok : slOk so q.out.length 7 (encG q.out)) (hlen : q.out.length ≤ 70000) (hw : Hp w (((bM, Mc, 95) :: (HB bH so q.out.length q.bx (.int .i32 (vn : Nat)) (.int .i32 (hn : Nat)) v7 q.x q.y q.fx q.fy q.io (.bool sm) ((q.bx).isSome) ([.float .f64 (F 0), .float .f64 (F wq)])) :: slH so (encG q.out) 77).map (·.1)) ((bM, Mc, 95) :: (HB bH so q.out.length q.bx (.int .i32 (vn : Nat)) (.int .i32 (hn : Nat)) v7 q.x q.y q.fx q.fy q.io (.bool sm) ((q.bx).isSome) ([.float .f64 (F 0), .float .f64 (F wq)])) :: slH so (encG q.out) 77) w) : Calls Tryz.prog 116 [.pointer (some ⟨bH, 0, none⟩), .pointer (some ⟨bM, 0, none⟩), .agg #[.int .u8 23, .bool false]].toArray w (Out w (((bM, Mc, 95) :: (HB bH so q.out.length q.bx (.int .i32 (vn : Nat)) (.int .i32 (hn : Nat)) v7 q.x q.y q.fx q.fy q.io (.bool sm) ((q.bx).isSome) ([.float .f64 (F 0), .float .f64 (F wq)])) :: slH so (encG q.out) 77).map (·.1)) (fun z : List Value × Int × Sv => MOk z.1 lo gl ins fr [] ∧ slOk z.2.2 (q).out.length 7 (encG (q).out)) (fun z => .nilIface) (fun z => (bM, z.1, 95) :: (HB bH z.2.2 (q).out.length ((q).bx) (.int .i32 ((vn + st.length / 2 : Nat) : Int)) (.int .i32 (hn : Nat)) v7 ((q).x) ((q).y) ((q).fx) ((q).fy) ((q).io) (.bool sm) (((q).bx).isSome) ([.float .f64 (F 0), .float .f64 (F z.2.1)])) :: slH z.2.2 (encG (q).out) 77)) := by
 have hml := hm.len
 have hms := hm.stl
 refine enter (n := 285) Tryz.func116 rfl rfl rfl hw ?_
 refine cR ?_
 refine l_gives rfl rfl (g_box (vs := [_, _]) rfl rfl) rfl ?_
 intro b5 hb5
 refine lA rfl ?_
 refine nR ?_
 refine lA rfl ?_
 refine nQ ?_
 refine c_seq ?_
 refine cR ?_
 refine lV (y_fieldAddr fo_117_1 rfl) ?_
 refine lV (y_load1 ld_4 rfl m0 rfl) ?_
 refine lV (y_not rfl) ?_
 refine nQ ?_
 refine c_true rfl rfl ?_
 refine cR ?_
 refine lV (y_fieldAddr fo_117_0 rfl) ?_
 refine lV (y_load1 ld_5 rfl m0 rfl) ?_
 refine nQ ?_
 refine c_block ?_
 refine cR ?_
 refine lB rfl rfl rfl rfl ?_
 refine lA rfl ?_
 refine nQ ?_
 refine c_false rfl rfl ?_
 refine cR ?_
 refine lB rfl rfl rfl rfl ?_
 refine lA rfl ?_
 refine nQ ?_
 refine c_false rfl rfl ?_
 refine cR ?_
 refine lB rfl rfl rfl rfl ?_
 refine lA rfl ?_
 refine nQ ?_
 refine c_false rfl rfl ?_
 refine cR ?_
 refine lB rfl rfl rfl rfl ?_
 refine lA rfl ?_
 refine nQ ?_
 refine c_false rfl rfl ?_
 refine cR ?_
 refine lB rfl rfl rfl rfl ?_
 refine lA rfl ?_
 refine nQ ?_
 refine c_false rfl rfl ?_
 refine cR ?_
 refine lB rfl rfl rfl rfl ?_
 refine lA rfl ?_
 refine nQ ?_
 refine c_false rfl rfl ?_
 refine cR ?_
 refine lB rfl rfl rfl rfl ?_
 refine lA rfl ?_
 refine nQ ?_
 refine c_false rfl rfl ?_
 refine c_seq ?_
 refine cR ?_
 refine lB rfl rfl rfl rfl ?_
 refine lA rfl ?_
 refine nQ ?_
 refine c_false rfl rfl ?_
 refine c_region ?_
 refine lB rfl rfl rfl rfl ?_
 refine lA rfl ?_
 refine nQ ?_
 refine c_false rfl rfl ?_
 refine c_seq ?_
 refine cR ?_
 refine lB rfl rfl rfl rfl ?_
 refine lA rfl ?_
 refine nQ ?_
 refine c_false rfl rfl ?_
 refine c_region ?_
 refine lB rfl rfl rfl rfl ?_
 refine lA rfl ?_
 refine nQ ?_
 refine c_true rfl rfl ?_
 refine c_region ?_
 refine lM rfl ?_
 refine lN rfl ?_
 refine lV (y_fieldAddr fo_99_0 rfl) ?_
 refine lM rfl ?_
 refine l_call ok_125 rfl rfl (out_mid2 (A := [_]) (H1 := [(bM, Mc, 95), (HB bH so q.out.length q.bx (.int .i32 (vn : Nat)) (.int .i32 (hn : Nat)) v7 q.x q.y q.fx q.fy q.io (.bool sm) ((q.bx).isSome) ([.float .f64 (F 0), .float .f64 (F wq)]))]) (R := slH so (encG q.out) 77) (fun w9 ha_ hb_ => f125_any w9 bM bH vn (by omega) Mc lo gl ins fr st hm q so (.int .i32 (hn : Nat)) v7 (.bool sm) [.float .f64 (F 0), .float .f64 (F wq)] hb_)) ?_
 intro _ _
 refine l_nil ?_
 refine q_block ?_
 refine qR ?_
 refine lM rfl ?_
 refine lN rfl ?_
 refine lV (y_fieldAddr fo_95_4 rfl) ?_
 refine l_call ok_141 rfl rfl (out_one [_] (b := (bM, Mc, 95)) (fun w9 ha_ hb_ => f141_any w9 bM Mc _ _ _ _ _ hm hb_)) ?_
 intro _ _
 have hmC := hm.clear
 refine nR ?_
 refine lM rfl ?_
 refine lA rfl ?_
 refine nQ ?_
 refine c_ret ?_
 exact body_ret (rs := [.tmp 6]) rfl (vs := [.nilIface]) ⟨rfl, trivial⟩ (out_end ((Mc.set 527 (.int .i32 0)), wq, so) ⟨hmC, hok⟩ rfl (.skip .refl)) _ (.inr rfl)
set_option maxHeartbeats 8000000 in
theorem ap_19f (w : World) (bM bH M : Nat) (Mc : List Value) (lo gl : Value) (fr : List Value) (vn hn : Nat) (v7 : Value) (st : List Int) (k m cl : Nat) (p : Addr) (hk : k < m) (hcl : m ≤ cl) (hk3 : k ≤ 1000000) (hkd : k = (hn + (vn + st.length / 2) + 7) / 8) (hvn : vn ≤ 1000000) (hhn : hn ≤ 1000000) (wq : Int) (q : QSt) (so : Sv) (hst : st.length ≤ 48) (hq : ∀ q ∈ st, Opd q) (hm : MOk Mc lo gl (.slice (some p) m cl) fr st) (hM : M + 120 * 2147483648 < 2 ^ 53) (hB : q.Bd M) (hok : slOk so q.out.length 7 (encG q.out)) (hlen : q.out.length ≤ 70000) (hw : Hp w (((bM, Mc, 95) :: (HB bH so q.out.length q.bx (.int .i32 (vn : Nat)) (.int .i32 (hn : Nat)) v7 q.x q.y q.fx q.fy q.io (.bool false) ((q.bx).isSome) ([.float .f64 (F 0), .float .f64 (F wq)])) :: slH so (encG q.out) 77).map (·.1)) ((bM, Mc, 95) :: (HB bH so q.out.length q.bx (.int .i32 (vn : Nat)) (.int .i32 (hn : Nat)) v7 q.x q.y q.fx q.fy q.io (.bool false) ((q.bx).isSome) ([.float .f64 (F 0), .float .f64 (F wq)])) :: slH so (encG q.out) 77) w) : Calls Tryz.prog 116 [.pointer (some ⟨bH, 0, none⟩), .pointer (some ⟨bM, 0, none⟩), .agg #[.int .u8 19, .bool false]].toArray w (Out w (((bM, Mc, 95) :: (HB bH so q.out.length q.bx (.int .i32 (vn : Nat)) (.int .i32 (hn : Nat)) v7 q.x q.y q.fx q.fy q.io (.bool false) ((q.bx).isSome) ([.float .f64 (F 0), .float .f64 (F wq)])) :: slH so (encG q.out) 77).map (·.1)) (fun z : List Value × Int × Sv => MOk z.1 lo gl (.slice (some (if cl = k then p else p.add (k * 1))) (m - k) (cl - k)) fr [] ∧ slOk z.2.2 (q).out.length 7 (encG (q).out)) (fun z => .nilIface) (fun z => (bM, z.1, 95) :: (HB bH z.2.2 (q).out.length ((q).bx) (.int .i32 ((vn + st.length / 2 : Nat) : Int)) (.int .i32 (hn : Nat)) (.int .i32 (k : Nat)) ((q).x) ((q).y) ((q).fx) ((q).fy) ((q).io) (.bool true) (((q).bx).isSome) ([.float .f64 (F 0), .float .f64 (F z.2.1)])) :: slH z.2.2 (encG (q).out) 77)) := by
 have hml := hm.len
 have hms := hm.stl
 refine enter (n := 285) Tryz.func116 rfl rfl rfl hw ?_
 refine cR ?_
 refine l_gives rfl rfl (g_box (vs := [_, _]) rfl rfl) rfl ?_
 intro b5 hb5
 refine lA rfl ?_
 refine nR ?_
 refine lA rfl ?_
 refine nQ ?_
 refine c_seq ?_
 refine cR ?_
 refine lV (y_fieldAddr fo_117_1 rfl) ?_
 refine lV (y_load1 ld_4 rfl m0 rfl) ?_
 refine lV (y_not rfl) ?_
 refine nQ ?_
 refine c_true rfl rfl ?_
 refine cR ?_
 refine lV (y_fieldAddr fo_117_0 rfl) ?_
 refine lV (y_load1 ld_5 rfl m0 rfl) ?_
 refine nQ ?_
 refine c_block ?_
 refine cR ?_
 refine lB rfl rfl rfl rfl ?_
 refine lA rfl ?_
 refine nQ ?_
 refine c_false rfl rfl ?_
 refine cR ?_
 refine lB rfl rfl rfl rfl ?_
 refine lA rfl ?_
 refine nQ ?_
 refine c_false rfl rfl ?_
 refine cR ?_
 refine lB rfl rfl rfl rfl ?_
 refine lA rfl ?_
 refine nQ ?_
 refine c_false rfl rfl ?_
 refine cR ?_
 refine lB rfl rfl rfl rfl ?_
 refine lA rfl ?_
 refine nQ ?_
 refine c_false rfl rfl ?_
 refine cR ?_
 refine lB rfl rfl rfl rfl ?_
 refine lA rfl ?_
 refine nQ ?_
 refine c_false rfl rfl ?_
 refine cR ?_
 refine lB rfl rfl rfl rfl ?_
 refine lA rfl ?_
 refine nQ ?_
 refine c_false rfl rfl ?_
 refine cR ?_
 refine lB rfl rfl rfl rfl ?_
 refine lA rfl ?_
 refine nQ ?_
 refine c_false rfl rfl ?_
 refine c_seq ?_
 refine cR ?_
 refine lB rfl rfl rfl rfl ?_
 refine lA rfl ?_
 refine nQ ?_
 refine c_false rfl rfl ?_
 refine c_region ?_
 refine lB rfl rfl rfl rfl ?_
 refine lA rfl ?_
 refine nQ ?_
 refine c_false rfl rfl ?_
 refine c_seq ?_
 refine cR ?_
 refine lB rfl rfl rfl rfl ?_
 refine lA rfl ?_
 refine nQ ?_
 refine c_false rfl rfl ?_
 refine c_region ?_
 refine lB rfl rfl rfl rfl ?_
 refine lA rfl ?_
 refine nQ ?_
 refine c_false rfl rfl ?_
 refine c_seq ?_
 refine cR ?_
 refine lB rfl rfl rfl rfl ?_
 refine lA rfl ?_
 refine nQ ?_
 refine c_true rfl rfl ?_
 refine kQ ?_
 refine c_true rfl rfl ?_
 refine c_seq ?_
 refine cR ?_
 refine lM rfl ?_
 refine lN rfl ?_
 refine lV (y_fieldAddr fo_95_4 rfl) ?_
 refine lV (y_fieldAddr fo_91_1 rfl) ?_
 refine lV (y_load1 ld_21 rfl m1 hm.tp) ?_
 refine lV (y_bin rfl rfl rfl (andV (by omega))) ?_
 refine lB rfl rfl rfl rfl ?_
 refine nQ ?_
 refine c_cond rfl (fun hc159 => ?_) (fun hc159 => ?_)
 ·obtain ⟨a0, h0⟩ := at_of (l := st) (i := 0) (by simp only [bne_iff_ne, ne_eq] at hc159; omega)
  have n0 := at_opd hq h0
  refine c_draw [(bM, Mc, 95)] mixed rfl ?_
  refine dM 0 rfl rfl ?_
  refine dM 1 rfl rfl ?_
  refine dN 2 rfl rfl ?_
  refine dV 3 rfl (y_fieldAddr fo_99_1 rfl) ?_
  refine dM 5 rfl rfl ?_
  refine dN 6 rfl rfl ?_
  refine dV 7 rfl (y_fieldAddr fo_95_4 rfl) ?_
  refine dV 8 rfl (y_fieldAddr fo_91_0 rfl) ?_
  refine dV 9 rfl (y_indexArr (j := 0) ar_89 rfl rfl (blt_of (by omega))) ?_
  refine dV 10 rfl (y_load1 ld_41 rfl m0 (hm.ops _ _ h0)) ?_
  refine d_ready (i := 4) (rs := []) (by kernel_rfl) (.cons (.there .here) .nil) (all_one ?_)
  refine o_gives rfl rfl rfl (gy (y_load1 ld_41 rfl m2 rfl)) rfl ?_
  intro _ _
  refine dV 11 rfl (y_fadd (a := 0) (b := a0) rfl rfl (by decide) (RF_F (by omega)) (by omega)) ?_
  refine dN 12 rfl rfl ?_
  refine dV 13 rfl (y_fieldAddr fo_99_2 rfl) ?_
  refine d_ready (i := 14) (rs := []) (by kernel_rfl) (.cons (.there .here) .nil) (all_one ?_)
  refine o_does rfl rfl rfl (g_store1 (cs' := _ :: _ :: _ :: _ :: _ :: _ :: _ :: _ :: _ :: _ :: _ :: _ :: _ :: _ :: _ :: _ :: _ :: _) sz_41 rfl rfl (by first | rfl | exact slV_cells _ _ | exact fvV_cells _ _) rfl (by first | rfl | exact slV_one _ _ | exact fvV_one _ _) rfl (.there (.there .here))) ?_
  intro _ _
  refine d_end (by kernel_rfl) (.cons (.there .here) .nil) ?_
  refine qR ?_
  refine lM rfl ?_
  refine lN rfl ?_
  refine lV (y_fieldAddr fo_99_0 rfl) ?_
  refine lM rfl ?_
  refine l_call ok_126 rfl rfl (out_mid2 (A := [_]) (H1 := [(bM, Mc, 95), (HB bH so q.out.length q.bx (.int .i32 (vn : Nat)) (.int .i32 (hn : Nat)) v7 q.x q.y q.fx q.fy q.io (.bool false) ((q.bx).isSome) ([.float .f64 (F 0), .float .f64 (F (0 + a0))]))]) (R := slH so (encG q.out) 77) (fun w9 ha_ hb_ => f126_f w9 bM bH vn hn k m cl p hvn hhn hk hcl hk3 Mc lo gl fr st v7 hkd hm q so [.float .f64 (F 0), .float .f64 (F (0 + a0))] hb_)) ?_
  intro _ _
  have hm2 := (hm.setIns (.slice (some (if cl = k then p else p.add (k * 1))) (m - k) (cl - k))).clear
  refine nR ?_
  refine lA rfl ?_
  refine nQ ?_
  refine c_ret ?_
  refine q_block_ret ?_
  refine q_then_ret ?_
  exact body_ret (rs := [.tmp 6]) rfl (vs := [.nilIface]) ⟨rfl, trivial⟩ (out_end (((Mc.set 2 (.slice (some (if cl = k then p else p.add (k * 1))) (m - k) (cl - k))).set 527 (.int .i32 0)), (0 + a0), so) ⟨hm2, hok⟩ rfl (.skip .refl)) _ (.inr rfl)
 ·refine kR ?_
  refine lM rfl ?_
  refine lN rfl ?_
  refine lV (y_fieldAddr fo_99_0 rfl) ?_
  refine lM rfl ?_
  refine l_call ok_126 rfl rfl (out_mid2 (A := [_]) (H1 := [(bM, Mc, 95), (HB bH so q.out.length q.bx (.int .i32 (vn : Nat)) (.int .i32 (hn : Nat)) v7 q.x q.y q.fx q.fy q.io (.bool false) ((q.bx).isSome) ([.float .f64 (F 0), .float .f64 (F wq)]))]) (R := slH so (encG q.out) 77) (fun w9 ha_ hb_ => f126_f w9 bM bH vn hn k m cl p hvn hhn hk hcl hk3 Mc lo gl fr st v7 hkd hm q so [.float .f64 (F 0), .float .f64 (F wq)] hb_)) ?_
  intro _ _
  have hm2 := (hm.setIns (.slice (some (if cl = k then p else p.add (k * 1))) (m - k) (cl - k))).clear
  refine nR ?_
  refine lA rfl ?_
  refine nQ ?_
  refine c_ret ?_
  refine q_block_ret ?_
  refine q_then_ret ?_
  exact body_ret (rs := [.tmp 6]) rfl (vs := [.nilIface]) ⟨rfl, trivial⟩ (out_end (((Mc.set 2 (.slice (some (if cl = k then p else p.add (k * 1))) (m - k) (cl - k))).set 527 (.int .i32 0)), wq, so) ⟨hm2, hok⟩ rfl (.skip .refl)) _ (.inr rfl)
set_option maxHeartbeats 8000000 in
theorem ap_19t (w : World) (bM bH M : Nat) (Mc : List Value) (lo gl : Value) (fr : List Value) (vn hn : Nat) (st : List Int) (k m cl : Nat) (p : Addr) (hk : k < m) (hcl : m ≤ cl) (hk3 : k ≤ 1000000) (hvn : vn ≤ 1000000) (hhn : hn ≤ 1000000) (wq : Int) (q : QSt) (so : Sv) (hst : st.length ≤ 48) (hq : ∀ q ∈ st, Opd q) (hm : MOk Mc lo gl (.slice (some p) m cl) fr st) (hM : M + 120 * 2147483648 < 2 ^ 53) (hB : q.Bd M) (hok : slOk so q.out.length 7 (encG q.out)) (hlen : q.out.length ≤ 70000) (hw : Hp w (((bM, Mc, 95) :: (HB bH so q.out.length q.bx (.int .i32 (vn : Nat)) (.int .i32 (hn : Nat)) (.int .i32 (k : Nat)) q.x q.y q.fx q.fy q.io (.bool true) ((q.bx).isSome) ([.float .f64 (F 0), .float .f64 (F wq)])) :: slH so (encG q.out) 77).map (·.1)) ((bM, Mc, 95) :: (HB bH so q.out.length q.bx (.int .i32 (vn : Nat)) (.int .i32 (hn : Nat)) (.int .i32 (k : Nat)) q.x q.y q.fx q.fy q.io (.bool true) ((q.bx).isSome) ([.float .f64 (F 0), .float .f64 (F wq)])) :: slH so (encG q.out) 77) w) : Calls Tryz.prog 116 [.pointer (some ⟨bH, 0, none⟩), .pointer (some ⟨bM, 0, none⟩), .agg #[.int .u8 19, .bool false]].toArray w (Out w (((bM, Mc, 95) :: (HB bH so q.out.length q.bx (.int .i32 (vn : Nat)) (.int .i32 (hn : Nat)) (.int .i32 (k : Nat)) q.x q.y q.fx q.fy q.io (.bool true) ((q.bx).isSome) ([.float .f64 (F 0), .float .f64 (F wq)])) :: slH so (encG q.out) 77).map (·.1)) (fun z : List Value × Int × Sv => MOk z.1 lo gl (.slice (some (if cl = k then p else p.add (k * 1))) (m - k) (cl - k)) fr [] ∧ slOk z.2.2 (q).out.length 7 (encG (q).out)) (fun z => .nilIface) (fun z => (bM, z.1, 95) :: (HB bH z.2.2 (q).out.length ((q).bx) (.int .i32 (vn : Nat)) (.int .i32 (hn : Nat)) (.int .i32 (k : Nat)) ((q).x) ((q).y) ((q).fx) ((q).fy) ((q).io) (.bool true) (((q).bx).isSome) ([.float .f64 (F 0), .float .f64 (F z.2.1)])) :: slH z.2.2 (encG (q).out) 77)) := by
 have hml := hm.len
 have hms := hm.stl
 refine enter (n := 285) Tryz.func116 rfl rfl rfl hw ?_
 refine cR ?_
 refine l_gives rfl rfl (g_box (vs := [_, _]) rfl rfl) rfl ?_
 intro b5 hb5
 refine lA rfl ?_
 refine nR ?_
 refine lA rfl ?_
 refine nQ ?_
 refine c_seq ?_
 refine cR ?_
 refine lV (y_fieldAddr fo_117_1 rfl) ?_
 refine lV (y_load1 ld_4 rfl m0 rfl) ?_
 refine lV (y_not rfl) ?_
 refine nQ ?_
 refine c_true rfl rfl ?_
 refine cR ?_
 refine lV (y_fieldAddr fo_117_0 rfl) ?_
 refine lV (y_load1 ld_5 rfl m0 rfl) ?_
 refine nQ ?_
 refine c_block ?_
 refine cR ?_
 refine lB rfl rfl rfl rfl ?_
 refine lA rfl ?_
 refine nQ ?_
 refine c_false rfl rfl ?_
 refine cR ?_
 refine lB rfl rfl rfl rfl ?_
 refine lA rfl ?_
 refine nQ ?_
 refine c_false rfl rfl ?_
 refine cR ?_
 refine lB rfl rfl rfl rfl ?_
 refine lA rfl ?_
 refine nQ ?_
 refine c_false rfl rfl ?_
 refine cR ?_
 refine lB rfl rfl rfl rfl ?_
 refine lA rfl ?_
 refine nQ ?_
 refine c_false rfl rfl ?_
 refine cR ?_
 refine lB rfl rfl rfl rfl ?_
 refine lA rfl ?_
 refine nQ ?_
 refine c_false rfl rfl ?_
 refine cR ?_
 refine lB rfl rfl rfl rfl ?_
 refine lA rfl ?_
 refine nQ ?_
 refine c_false rfl rfl ?_
 refine cR ?_
 refine lB rfl rfl rfl rfl ?_
 refine lA rfl ?_
 refine nQ ?_
 refine c_false rfl rfl ?_
 refine c_seq ?_
 refine cR ?_
 refine lB rfl rfl rfl rfl ?_
 refine lA rfl ?_
 refine nQ ?_
 refine c_false rfl rfl ?_
 refine c_region ?_
 refine lB rfl rfl rfl rfl ?_
 refine lA rfl ?_
 refine nQ ?_
 refine c_false rfl rfl ?_
 refine c_seq ?_
 refine cR ?_
 refine lB rfl rfl rfl rfl ?_
 refine lA rfl ?_
 refine nQ ?_
 refine c_false rfl rfl ?_
 refine c_region ?_
 refine lB rfl rfl rfl rfl ?_
 refine lA rfl ?_
 refine nQ ?_
 refine c_false rfl rfl ?_
 refine c_seq ?_
 refine cR ?_
 refine lB rfl rfl rfl rfl ?_
 refine lA rfl ?_
 refine nQ ?_
 refine c_true rfl rfl ?_
 refine kQ ?_
 refine c_true rfl rfl ?_
 refine c_seq ?_
 refine cR ?_
 refine lM rfl ?_
 refine lN rfl ?_
 refine lV (y_fieldAddr fo_95_4 rfl) ?_
 refine lV (y_fieldAddr fo_91_1 rfl) ?_
 refine lV (y_load1 ld_21 rfl m1 hm.tp) ?_
 refine lV (y_bin rfl rfl rfl (andV (by omega))) ?_
 refine lB rfl rfl rfl rfl ?_
 refine nQ ?_
 refine c_cond rfl (fun hc159 => ?_) (fun hc159 => ?_)
 ·obtain ⟨a0, h0⟩ := at_of (l := st) (i := 0) (by simp only [bne_iff_ne, ne_eq] at hc159; omega)
  have n0 := at_opd hq h0
  refine c_draw [(bM, Mc, 95)] mixed rfl ?_
  refine dM 0 rfl rfl ?_
  refine dM 1 rfl rfl ?_
  refine dN 2 rfl rfl ?_
  refine dV 3 rfl (y_fieldAddr fo_99_1 rfl) ?_
  refine dM 5 rfl rfl ?_
  refine dN 6 rfl rfl ?_
  refine dV 7 rfl (y_fieldAddr fo_95_4 rfl) ?_
  refine dV 8 rfl (y_fieldAddr fo_91_0 rfl) ?_
  refine dV 9 rfl (y_indexArr (j := 0) ar_89 rfl rfl (blt_of (by omega))) ?_
  refine dV 10 rfl (y_load1 ld_41 rfl m0 (hm.ops _ _ h0)) ?_
  refine d_ready (i := 4) (rs := []) (by kernel_rfl) (.cons (.there .here) .nil) (all_one ?_)
  refine o_gives rfl rfl rfl (gy (y_load1 ld_41 rfl m2 rfl)) rfl ?_
  intro _ _
  refine dV 11 rfl (y_fadd (a := 0) (b := a0) rfl rfl (by decide) (RF_F (by omega)) (by omega)) ?_
  refine dN 12 rfl rfl ?_
  refine dV 13 rfl (y_fieldAddr fo_99_2 rfl) ?_
  refine d_ready (i := 14) (rs := []) (by kernel_rfl) (.cons (.there .here) .nil) (all_one ?_)
  refine o_does rfl rfl rfl (g_store1 (cs' := _ :: _ :: _ :: _ :: _ :: _ :: _ :: _ :: _ :: _ :: _ :: _ :: _ :: _ :: _ :: _ :: _ :: _) sz_41 rfl rfl (by first | rfl | exact slV_cells _ _ | exact fvV_cells _ _) rfl (by first | rfl | exact slV_one _ _ | exact fvV_one _ _) rfl (.there (.there .here))) ?_
  intro _ _
  refine d_end (by kernel_rfl) (.cons (.there .here) .nil) ?_
  refine qR ?_
  refine lM rfl ?_
  refine lN rfl ?_
  refine lV (y_fieldAddr fo_99_0 rfl) ?_
  refine lM rfl ?_
  refine l_call ok_126 rfl rfl (out_mid2 (A := [_]) (H1 := [(bM, Mc, 95), (HB bH so q.out.length q.bx (.int .i32 (vn : Nat)) (.int .i32 (hn : Nat)) (.int .i32 (k : Nat)) q.x q.y q.fx q.fy q.io (.bool true) ((q.bx).isSome) ([.float .f64 (F 0), .float .f64 (F (0 + a0))]))]) (R := slH so (encG q.out) 77) (fun w9 ha_ hb_ => f126_t w9 bM bH vn hn k m cl p hvn hhn hk hcl hk3 Mc lo gl fr st hm q so [.float .f64 (F 0), .float .f64 (F (0 + a0))] hb_)) ?_
  intro _ _
  have hm2 := (hm.setIns (.slice (some (if cl = k then p else p.add (k * 1))) (m - k) (cl - k))).clear
  refine nR ?_
  refine lA rfl ?_
  refine nQ ?_
  refine c_ret ?_
  refine q_block_ret ?_
  refine q_then_ret ?_
  exact body_ret (rs := [.tmp 6]) rfl (vs := [.nilIface]) ⟨rfl, trivial⟩ (out_end (((Mc.set 2 (.slice (some (if cl = k then p else p.add (k * 1))) (m - k) (cl - k))).set 527 (.int .i32 0)), (0 + a0), so) ⟨hm2, hok⟩ rfl (.skip .refl)) _ (.inr rfl)
 ·refine kR ?_
  refine lM rfl ?_
  refine lN rfl ?_
  refine lV (y_fieldAddr fo_99_0 rfl) ?_
  refine lM rfl ?_
  refine l_call ok_126 rfl rfl (out_mid2 (A := [_]) (H1 := [(bM, Mc, 95), (HB bH so q.out.length q.bx (.int .i32 (vn : Nat)) (.int .i32 (hn : Nat)) (.int .i32 (k : Nat)) q.x q.y q.fx q.fy q.io (.bool true) ((q.bx).isSome) ([.float .f64 (F 0), .float .f64 (F wq)]))]) (R := slH so (encG q.out) 77) (fun w9 ha_ hb_ => f126_t w9 bM bH vn hn k m cl p hvn hhn hk hcl hk3 Mc lo gl fr st hm q so [.float .f64 (F 0), .float .f64 (F wq)] hb_)) ?_
  intro _ _
  have hm2 := (hm.setIns (.slice (some (if cl = k then p else p.add (k * 1))) (m - k) (cl - k))).clear
  refine nR ?_
  refine lA rfl ?_
  refine nQ ?_
  refine c_ret ?_
  refine q_block_ret ?_
  refine q_then_ret ?_
  exact body_ret (rs := [.tmp 6]) rfl (vs := [.nilIface]) ⟨rfl, trivial⟩ (out_end (((Mc.set 2 (.slice (some (if cl = k then p else p.add (k * 1))) (m - k) (cl - k))).set 527 (.int .i32 0)), wq, so) ⟨hm2, hok⟩ rfl (.skip .refl)) _ (.inr rfl)
set_option maxHeartbeats 8000000 in
theorem ap_20f (w : World) (bM bH M : Nat) (Mc : List Value) (lo gl : Value) (fr : List Value) (vn hn : Nat) (v7 : Value) (st : List Int) (k m cl : Nat) (p : Addr) (hk : k < m) (hcl : m ≤ cl) (hk3 : k ≤ 1000000) (hkd : k = (hn + (vn + st.length / 2) + 7) / 8) (hvn : vn ≤ 1000000) (hhn : hn ≤ 1000000) (wq : Int) (q : QSt) (so : Sv) (hst : st.length ≤ 48) (hq : ∀ q ∈ st, Opd q) (hm : MOk Mc lo gl (.slice (some p) m cl) fr st) (hM : M + 120 * 2147483648 < 2 ^ 53) (hB : q.Bd M) (hok : slOk so q.out.length 7 (encG q.out)) (hlen : q.out.length ≤ 70000) (hw : Hp w (((bM, Mc, 95) :: (HB bH so q.out.length q.bx (.int .i32 (vn : Nat)) (.int .i32 (hn : Nat)) v7 q.x q.y q.fx q.fy q.io (.bool false) ((q.bx).isSome) ([.float .f64 (F 0), .float .f64 (F wq)])) :: slH so (encG q.out) 77).map (·.1)) ((bM, Mc, 95) :: (HB bH so q.out.length q.bx (.int .i32 (vn : Nat)) (.int .i32 (hn : Nat)) v7 q.x q.y q.fx q.fy q.io (.bool false) ((q.bx).isSome) ([.float .f64 (F 0), .float .f64 (F wq)])) :: slH so (encG q.out) 77) w) : Calls Tryz.prog 116 [.pointer (some ⟨bH, 0, none⟩), .pointer (some ⟨bM, 0, none⟩), .agg #[.int .u8 20, .bool false]].toArray w (Out w (((bM, Mc, 95) :: (HB bH so q.out.length q.bx (.int .i32 (vn : Nat)) (.int .i32 (hn : Nat)) v7 q.x q.y q.fx q.fy q.io (.bool false) ((q.bx).isSome) ([.float .f64 (F 0), .float .f64 (F wq)])) :: slH so (encG q.out) 77).map (·.1)) (fun z : List Value × Int × Sv => MOk z.1 lo gl (.slice (some (if cl = k then p else p.add (k * 1))) (m - k) (cl - k)) fr [] ∧ slOk z.2.2 (q).out.length 7 (encG (q).out)) (fun z => .nilIface) (fun z => (bM, z.1, 95) :: (HB bH z.2.2 (q).out.length ((q).bx) (.int .i32 ((vn + st.length / 2 : Nat) : Int)) (.int .i32 (hn : Nat)) (.int .i32 (k : Nat)) ((q).x) ((q).y) ((q).fx) ((q).fy) ((q).io) (.bool true) (((q).bx).isSome) ([.float .f64 (F 0), .float .f64 (F z.2.1)])) :: slH z.2.2 (encG (q).out) 77)) := by
 have hml := hm.len
 have hms := hm.stl
 refine enter (n := 285) Tryz.func116 rfl rfl rfl hw ?_
 refine cR ?_
 refine l_gives rfl rfl (g_box (vs := [_, _]) rfl rfl) rfl ?_
 intro b5 hb5
 refine lA rfl ?_
 refine nR ?_
 refine lA rfl ?_
 refine nQ ?_
 refine c_seq ?_
 refine cR ?_
 refine lV (y_fieldAddr fo_117_1 rfl) ?_
 refine lV (y_load1 ld_4 rfl m0 rfl) ?_
 refine lV (y_not rfl) ?_
 refine nQ ?_
 refine c_true rfl rfl ?_
 refine cR ?_
 refine lV (y_fieldAddr fo_117_0 rfl) ?_
 refine lV (y_load1 ld_5 rfl m0 rfl) ?_
 refine nQ ?_
 refine c_block ?_
 refine cR ?_
 refine lB rfl rfl rfl rfl ?_
 refine lA rfl ?_
 refine nQ ?_
 refine c_false rfl rfl ?_
 refine cR ?_
 refine lB rfl rfl rfl rfl ?_
 refine lA rfl ?_
 refine nQ ?_
 refine c_false rfl rfl ?_
 refine cR ?_
 refine lB rfl rfl rfl rfl ?_
 refine lA rfl ?_
 refine nQ ?_
 refine c_false rfl rfl ?_
 refine cR ?_
 refine lB rfl rfl rfl rfl ?_
 refine lA rfl ?_
 refine nQ ?_
 refine c_false rfl rfl ?_
 refine cR ?_
 refine lB rfl rfl rfl rfl ?_
 refine lA rfl ?_
 refine nQ ?_
 refine c_false rfl rfl ?_
 refine cR ?_
 refine lB rfl rfl rfl rfl ?_
 refine lA rfl ?_
 refine nQ ?_
 refine c_false rfl rfl ?_
 refine cR ?_
 refine lB rfl rfl rfl rfl ?_
 refine lA rfl ?_
 refine nQ ?_
 refine c_false rfl rfl ?_
 refine c_seq ?_
 refine cR ?_
 refine lB rfl rfl rfl rfl ?_
 refine lA rfl ?_
 refine nQ ?_
 refine c_false rfl rfl ?_
 refine c_region ?_
 refine lB rfl rfl rfl rfl ?_
 refine lA rfl ?_
 refine nQ ?_
 refine c_false rfl rfl ?_
 refine c_seq ?_
 refine cR ?_
 refine lB rfl rfl rfl rfl ?_
 refine lA rfl ?_
 refine nQ ?_
 refine c_false rfl rfl ?_
 refine c_region ?_
 refine lB rfl rfl rfl rfl ?_
 refine lA rfl ?_
 refine nQ ?_
 refine c_false rfl rfl ?_
 refine c_seq ?_
 refine cR ?_
 refine lB rfl rfl rfl rfl ?_
 refine lA rfl ?_
 refine nQ ?_
 refine c_false rfl rfl ?_
 refine c_region ?_
 refine lB rfl rfl rfl rfl ?_
 refine lA rfl ?_
 refine nQ ?_
 refine c_true rfl rfl ?_
 refine c_seq ?_
 refine cR ?_
 refine lM rfl ?_
 refine lN rfl ?_
 refine lV (y_fieldAddr fo_95_4 rfl) ?_
 refine lV (y_fieldAddr fo_91_1 rfl) ?_
 refine lV (y_load1 ld_21 rfl m1 hm.tp) ?_
 refine lV (y_bin rfl rfl rfl (andV (by omega))) ?_
 refine lB rfl rfl rfl rfl ?_
 refine nQ ?_
 refine c_cond rfl (fun hc159 => ?_) (fun hc159 => ?_)
 ·obtain ⟨a0, h0⟩ := at_of (l := st) (i := 0) (by simp only [bne_iff_ne, ne_eq] at hc159; omega)
  have n0 := at_opd hq h0
  refine c_draw [(bM, Mc, 95)] mixed rfl ?_
  refine dM 0 rfl rfl ?_
  refine dM 1 rfl rfl ?_
  refine dN 2 rfl rfl ?_
  refine dV 3 rfl (y_fieldAddr fo_99_1 rfl) ?_
  refine dM 5 rfl rfl ?_
  refine dN 6 rfl rfl ?_
  refine dV 7 rfl (y_fieldAddr fo_95_4 rfl) ?_
  refine dV 8 rfl (y_fieldAddr fo_91_0 rfl) ?_
  refine dV 9 rfl (y_indexArr (j := 0) ar_89 rfl rfl (blt_of (by omega))) ?_
  refine dV 10 rfl (y_load1 ld_41 rfl m0 (hm.ops _ _ h0)) ?_
  refine d_ready (i := 4) (rs := []) (by kernel_rfl) (.cons (.there .here) .nil) (all_one ?_)
  refine o_gives rfl rfl rfl (gy (y_load1 ld_41 rfl m2 rfl)) rfl ?_
  intro _ _
  refine dV 11 rfl (y_fadd (a := 0) (b := a0) rfl rfl (by decide) (RF_F (by omega)) (by omega)) ?_
  refine dN 12 rfl rfl ?_
  refine dV 13 rfl (y_fieldAddr fo_99_2 rfl) ?_
  refine d_ready (i := 14) (rs := []) (by kernel_rfl) (.cons (.there .here) .nil) (all_one ?_)
  refine o_does rfl rfl rfl (g_store1 (cs' := _ :: _ :: _ :: _ :: _ :: _ :: _ :: _ :: _ :: _ :: _ :: _ :: _ :: _ :: _ :: _ :: _ :: _) sz_41 rfl rfl (by first | rfl | exact slV_cells _ _ | exact fvV_cells _ _) rfl (by first | rfl | exact slV_one _ _ | exact fvV_one _ _) rfl (.there (.there .here))) ?_
  intro _ _
  refine d_end (by kernel_rfl) (.cons (.there .here) .nil) ?_
  refine qR ?_
  refine lM rfl ?_
  refine lN rfl ?_
  refine lV (y_fieldAddr fo_99_0 rfl) ?_
  refine lM rfl ?_
  refine l_call ok_126 rfl rfl (out_mid2 (A := [_]) (H1 := [(bM, Mc, 95), (HB bH so q.out.length q.bx (.int .i32 (vn : Nat)) (.int .i32 (hn : Nat)) v7 q.x q.y q.fx q.fy q.io (.bool false) ((q.bx).isSome) ([.float .f64 (F 0), .float .f64 (F (0 + a0))]))]) (R := slH so (encG q.out) 77) (fun w9 ha_ hb_ => f126_f w9 bM bH vn hn k m cl p hvn hhn hk hcl hk3 Mc lo gl fr st v7 hkd hm q so [.float .f64 (F 0), .float .f64 (F (0 + a0))] hb_)) ?_
  intro _ _
  have hm2 := (hm.setIns (.slice (some (if cl = k then p else p.add (k * 1))) (m - k) (cl - k))).clear
  refine nR ?_
  refine lA rfl ?_
  refine nQ ?_
  refine c_ret ?_
  refine q_block_ret ?_
  refine q_then_ret ?_
  exact body_ret (rs := [.tmp 6]) rfl (vs := [.nilIface]) ⟨rfl, trivial⟩ (out_end (((Mc.set 2 (.slice (some (if cl = k then p else p.add (k * 1))) (m - k) (cl - k))).set 527 (.int .i32 0)), (0 + a0), so) ⟨hm2, hok⟩ rfl (.skip .refl)) _ (.inr rfl)
 ·refine kR ?_
  refine lM rfl ?_
  refine lN rfl ?_
  refine lV (y_fieldAddr fo_99_0 rfl) ?_
  refine lM rfl ?_
  refine l_call ok_126 rfl rfl (out_mid2 (A := [_]) (H1 := [(bM, Mc, 95), (HB bH so q.out.length q.bx (.int .i32 (vn : Nat)) (.int .i32 (hn : Nat)) v7 q.x q.y q.fx q.fy q.io (.bool false) ((q.bx).isSome) ([.float .f64 (F 0), .float .f64 (F wq)]))]) (R := slH so (encG q.out) 77) (fun w9 ha_ hb_ => f126_f w9 bM bH vn hn k m cl p hvn hhn hk hcl hk3 Mc lo gl fr st v7 hkd hm q so [.float .f64 (F 0), .float .f64 (F wq)] hb_)) ?_
  intro _ _
  have hm2 := (hm.setIns (.slice (some (if cl = k then p else p.add (k * 1))) (m - k) (cl - k))).clear
  refine nR ?_
  refine lA rfl ?_
  refine nQ ?_
  refine c_ret ?_
  refine q_block_ret ?_
  refine q_then_ret ?_
  exact body_ret (rs := [.tmp 6]) rfl (vs := [.nilIface]) ⟨rfl, trivial⟩ (out_end (((Mc.set 2 (.slice (some (if cl = k then p else p.add (k * 1))) (m - k) (cl - k))).set 527 (.int .i32 0)), wq, so) ⟨hm2, hok⟩ rfl (.skip .refl)) _ (.inr rfl)
set_option maxHeartbeats 8000000 in
theorem ap_20t (w : World) (bM bH M : Nat) (Mc : List Value) (lo gl : Value) (fr : List Value) (vn hn : Nat) (st : List Int) (k m cl : Nat) (p : Addr) (hk : k < m) (hcl : m ≤ cl) (hk3 : k ≤ 1000000) (hvn : vn ≤ 1000000) (hhn : hn ≤ 1000000) (wq : Int) (q : QSt) (so : Sv) (hst : st.length ≤ 48) (hq : ∀ q ∈ st, Opd q) (hm : MOk Mc lo gl (.slice (some p) m cl) fr st) (hM : M + 120 * 2147483648 < 2 ^ 53) (hB : q.Bd M) (hok : slOk so q.out.length 7 (encG q.out)) (hlen : q.out.length ≤ 70000) (hw : Hp w (((bM, Mc, 95) :: (HB bH so q.out.length q.bx (.int .i32 (vn : Nat)) (.int .i32 (hn : Nat)) (.int .i32 (k : Nat)) q.x q.y q.fx q.fy q.io (.bool true) ((q.bx).isSome) ([.float .f64 (F 0), .float .f64 (F wq)])) :: slH so (encG q.out) 77).map (·.1)) ((bM, Mc, 95) :: (HB bH so q.out.length q.bx (.int .i32 (vn : Nat)) (.int .i32 (hn : Nat)) (.int .i32 (k : Nat)) q.x q.y q.fx q.fy q.io (.bool true) ((q.bx).isSome) ([.float .f64 (F 0), .float .f64 (F wq)])) :: slH so (encG q.out) 77) w) : Calls Tryz.prog 116 [.pointer (some ⟨bH, 0, none⟩), .pointer (some ⟨bM, 0, none⟩), .agg #[.int .u8 20, .bool false]].toArray w (Out w (((bM, Mc, 95) :: (HB bH so q.out.length q.bx (.int .i32 (vn : Nat)) (.int .i32 (hn : Nat)) (.int .i32 (k : Nat)) q.x q.y q.fx q.fy q.io (.bool true) ((q.bx).isSome) ([.float .f64 (F 0), .float .f64 (F wq)])) :: slH so (encG q.out) 77).map (·.1)) (fun z : List Value × Int × Sv => MOk z.1 lo gl (.slice (some (if cl = k then p else p.add (k * 1))) (m - k) (cl - k)) fr [] ∧ slOk z.2.2 (q).out.length 7 (encG (q).out)) (fun z => .nilIface) (fun z => (bM, z.1, 95) :: (HB bH z.2.2 (q).out.length ((q).bx) (.int .i32 (vn : Nat)) (.int .i32 (hn : Nat)) (.int .i32 (k : Nat)) ((q).x) ((q).y) ((q).fx) ((q).fy) ((q).io) (.bool true) (((q).bx).isSome) ([.float .f64 (F 0), .float .f64 (F z.2.1)])) :: slH z.2.2 (encG (q).out) 77)) := by
 have hml := hm.len
 have hms := hm.stl
 refine enter (n := 285) Tryz.func116 rfl rfl rfl hw ?_
 refine cR ?_
 refine l_gives rfl rfl (g_box (vs := [_, _]) rfl rfl) rfl ?_
 intro b5 hb5
 refine lA rfl ?_
 refine nR ?_
 refine lA rfl ?_
 refine nQ ?_
 refine c_seq ?_
 refine cR ?_
 refine lV (y_fieldAddr fo_117_1 rfl) ?_
 refine lV (y_load1 ld_4 rfl m0 rfl) ?_
 refine lV (y_not rfl) ?_
 refine nQ ?_
 refine c_true rfl rfl ?_
 refine cR ?_
 refine lV (y_fieldAddr fo_117_0 rfl) ?_
 refine lV (y_load1 ld_5 rfl m0 rfl) ?_
 refine nQ ?_
 refine c_block ?_
 refine cR ?_
 refine lB rfl rfl rfl rfl ?_
 refine lA rfl ?_
 refine nQ ?_
 refine c_false rfl rfl ?_
 refine cR ?_
 refine lB rfl rfl rfl rfl ?_
 refine lA rfl ?_
 refine nQ ?_
 refine c_false rfl rfl ?_
 refine cR ?_
 refine lB rfl rfl rfl rfl ?_
 refine lA rfl ?_
 refine nQ ?_
 refine c_false rfl rfl ?_
 refine cR ?_
 refine lB rfl rfl rfl rfl ?_
 refine lA rfl ?_
 refine nQ ?_
 refine c_false rfl rfl ?_
 refine cR ?_
 refine lB rfl rfl rfl rfl ?_
 refine lA rfl ?_
 refine nQ ?_
 refine c_false rfl rfl ?_
 refine cR ?_
 refine lB rfl rfl rfl rfl ?_
 refine lA rfl ?_
 refine nQ ?_
 refine c_false rfl rfl ?_
 refine cR ?_
 refine lB rfl rfl rfl rfl ?_
 refine lA rfl ?_
 refine nQ ?_
 refine c_false rfl rfl ?_
 refine c_seq ?_
 refine cR ?_
 refine lB rfl rfl rfl rfl ?_
 refine lA rfl ?_
 refine nQ ?_
 refine c_false rfl rfl ?_
 refine c_region ?_
 refine lB rfl rfl rfl rfl ?_
 refine lA rfl ?_
 refine nQ ?_
 refine c_false rfl rfl ?_
 refine c_seq ?_
 refine cR ?_
 refine lB rfl rfl rfl rfl ?_
 refine lA rfl ?_
 refine nQ ?_
 refine c_false rfl rfl ?_
 refine c_region ?_
 refine lB rfl rfl rfl rfl ?_
 refine lA rfl ?_
 refine nQ ?_
 refine c_false rfl rfl ?_
 refine c_seq ?_
 refine cR ?_
 refine lB rfl rfl rfl rfl ?_
 refine lA rfl ?_
 refine nQ ?_
 refine c_false rfl rfl ?_
 refine c_region ?_
 refine lB rfl rfl rfl rfl ?_
 refine lA rfl ?_
 refine nQ ?_
 refine c_true rfl rfl ?_
 refine c_seq ?_
 refine cR ?_
 refine lM rfl ?_
 refine lN rfl ?_
 refine lV (y_fieldAddr fo_95_4 rfl) ?_
 refine lV (y_fieldAddr fo_91_1 rfl) ?_
 refine lV (y_load1 ld_21 rfl m1 hm.tp) ?_
 refine lV (y_bin rfl rfl rfl (andV (by omega))) ?_
 refine lB rfl rfl rfl rfl ?_
 refine nQ ?_
 refine c_cond rfl (fun hc159 => ?_) (fun hc159 => ?_)
 ·obtain ⟨a0, h0⟩ := at_of (l := st) (i := 0) (by simp only [bne_iff_ne, ne_eq] at hc159; omega)
  have n0 := at_opd hq h0
  refine c_draw [(bM, Mc, 95)] mixed rfl ?_
  refine dM 0 rfl rfl ?_
  refine dM 1 rfl rfl ?_
  refine dN 2 rfl rfl ?_
  refine dV 3 rfl (y_fieldAddr fo_99_1 rfl) ?_
  refine dM 5 rfl rfl ?_
  refine dN 6 rfl rfl ?_
  refine dV 7 rfl (y_fieldAddr fo_95_4 rfl) ?_
  refine dV 8 rfl (y_fieldAddr fo_91_0 rfl) ?_
  refine dV 9 rfl (y_indexArr (j := 0) ar_89 rfl rfl (blt_of (by omega))) ?_
  refine dV 10 rfl (y_load1 ld_41 rfl m0 (hm.ops _ _ h0)) ?_
  refine d_ready (i := 4) (rs := []) (by kernel_rfl) (.cons (.there .here) .nil) (all_one ?_)
  refine o_gives rfl rfl rfl (gy (y_load1 ld_41 rfl m2 rfl)) rfl ?_
  intro _ _
  refine dV 11 rfl (y_fadd (a := 0) (b := a0) rfl rfl (by decide) (RF_F (by omega)) (by omega)) ?_
  refine dN 12 rfl rfl ?_
  refine dV 13 rfl (y_fieldAddr fo_99_2 rfl) ?_
  refine d_ready (i := 14) (rs := []) (by kernel_rfl) (.cons (.there .here) .nil) (all_one ?_)
  refine o_does rfl rfl rfl (g_store1 (cs' := _ :: _ :: _ :: _ :: _ :: _ :: _ :: _ :: _ :: _ :: _ :: _ :: _ :: _ :: _ :: _ :: _ :: _) sz_41 rfl rfl (by first | rfl | exact slV_cells _ _ | exact fvV_cells _ _) rfl (by first | rfl | exact slV_one _ _ | exact fvV_one _ _) rfl (.there (.there .here))) ?_
  intro _ _
  refine d_end (by kernel_rfl) (.cons (.there .here) .nil) ?_
  refine qR ?_
  refine lM rfl ?_
  refine lN rfl ?_
  refine lV (y_fieldAddr fo_99_0 rfl) ?_
  refine lM rfl ?_
  refine l_call ok_126 rfl rfl (out_mid2 (A := [_]) (H1 := [(bM, Mc, 95), (HB bH so q.out.length q.bx (.int .i32 (vn : Nat)) (.int .i32 (hn : Nat)) (.int .i32 (k : Nat)) q.x q.y q.fx q.fy q.io (.bool true) ((q.bx).isSome) ([.float .f64 (F 0), .float .f64 (F (0 + a0))]))]) (R := slH so (encG q.out) 77) (fun w9 ha_ hb_ => f126_t w9 bM bH vn hn k m cl p hvn hhn hk hcl hk3 Mc lo gl fr st hm q so [.float .f64 (F 0), .float .f64 (F (0 + a0))] hb_)) ?_
  intro _ _
  have hm2 := (hm.setIns (.slice (some (if cl = k then p else p.add (k * 1))) (m - k) (cl - k))).clear
  refine nR ?_
  refine lA rfl ?_
  refine nQ ?_
  refine c_ret ?_
  refine q_block_ret ?_
  refine q_then_ret ?_
  exact body_ret (rs := [.tmp 6]) rfl (vs := [.nilIface]) ⟨rfl, trivial⟩ (out_end (((Mc.set 2 (.slice (some (if cl = k then p else p.add (k * 1))) (m - k) (cl - k))).set 527 (.int .i32 0)), (0 + a0), so) ⟨hm2, hok⟩ rfl (.skip .refl)) _ (.inr rfl)
 ·refine kR ?_
  refine lM rfl ?_
  refine lN rfl ?_
  refine lV (y_fieldAddr fo_99_0 rfl) ?_
  refine lM rfl ?_
  refine l_call ok_126 rfl rfl (out_mid2 (A := [_]) (H1 := [(bM, Mc, 95), (HB bH so q.out.length q.bx (.int .i32 (vn : Nat)) (.int .i32 (hn : Nat)) (.int .i32 (k : Nat)) q.x q.y q.fx q.fy q.io (.bool true) ((q.bx).isSome) ([.float .f64 (F 0), .float .f64 (F wq)]))]) (R := slH so (encG q.out) 77) (fun w9 ha_ hb_ => f126_t w9 bM bH vn hn k m cl p hvn hhn hk hcl hk3 Mc lo gl fr st hm q so [.float .f64 (F 0), .float .f64 (F wq)] hb_)) ?_
  intro _ _
  have hm2 := (hm.setIns (.slice (some (if cl = k then p else p.add (k * 1))) (m - k) (cl - k))).clear
  refine nR ?_
  refine lA rfl ?_
  refine nQ ?_
  refine c_ret ?_
  refine q_block_ret ?_
  refine q_then_ret ?_
  exact body_ret (rs := [.tmp 6]) rfl (vs := [.nilIface]) ⟨rfl, trivial⟩ (out_end (((Mc.set 2 (.slice (some (if cl = k then p else p.add (k * 1))) (m - k) (cl - k))).set 527 (.int .i32 0)), wq, so) ⟨hm2, hok⟩ rfl (.skip .refl)) _ (.inr rfl)
end Go.Proofs.YtbepljmeflndkaaGreatDoor
