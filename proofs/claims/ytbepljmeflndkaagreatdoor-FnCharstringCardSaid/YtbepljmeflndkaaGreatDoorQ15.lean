/- Part 15 of the proof about FnCharstring. -/
import Derived.Test.YtbepljmeflndkaaGreatDoorQ14
import Derived.Test.YtbepljmeflndkaaGreatDoorQ10
import Derived.Test.YtbepljmeflndkaaGreatDoorQ11
import Derived.Test.YtbepljmeflndkaaGreatDoorQ12
import Derived.Laws.Externs
namespace Go.Proofs.YtbepljmeflndkaaGreatDoor
open Go.Eng Go.Fl
set_option maxRecDepth 100000
attribute [local irreducible] IntKind.wrap Int.tdiv Int.tmod Int.emod maxLen F G
set_option maxHeartbeats 8000000 in
theorem ap_5 (w : World) (bM bH M : Nat) (Mc : List Value) (lo gl : Value) (ins : Value) (fr : List Value) (vn hn : Nat) (v7 : Value) (sm : Bool) (st : List Int) (hc : st.length % 2 = 0) (hvn : vn ≤ 1000000) (hhn : hn ≤ 1000000) (wq : Int) (q : QSt) (so : Sv) (hst : st.length ≤ 48) (hq : ∀ q ∈ st, Opd q) (hm : MOk Mc lo gl ins fr st) (hM : M + 120 * 2147483648 < 2 ^ 53) (hB : q.Bd M) (hok : slOk so q.out.length 7 (encG q.out)) (hlen : q.out.length ≤ 70000) (hw : Hp w (((bM, Mc, 95) :: (HB bH so q.out.length q.bx (.int .i32 (vn : Nat)) (.int .i32 (hn : Nat)) v7 q.x q.y q.fx q.fy q.io (.bool sm) ((q.bx).isSome) ([.float .f64 (F 0), .float .f64 (F wq)])) :: slH so (encG q.out) 77).map (·.1)) ((bM, Mc, 95) :: (HB bH so q.out.length q.bx (.int .i32 (vn : Nat)) (.int .i32 (hn : Nat)) v7 q.x q.y q.fx q.fy q.io (.bool sm) ((q.bx).isSome) ([.float .f64 (F 0), .float .f64 (F wq)])) :: slH so (encG q.out) 77) w) : Calls Tryz.prog 116 [.pointer (some ⟨bH, 0, none⟩), .pointer (some ⟨bM, 0, none⟩), .agg #[.int .u8 5, .bool false]].toArray w (Out w (((bM, Mc, 95) :: (HB bH so q.out.length q.bx (.int .i32 (vn : Nat)) (.int .i32 (hn : Nat)) v7 q.x q.y q.fx q.fy q.io (.bool sm) ((q.bx).isSome) ([.float .f64 (F 0), .float .f64 (F wq)])) :: slH so (encG q.out) 77).map (·.1)) (fun z : List Value × Int × Sv => MOk z.1 lo gl ins fr [] ∧ slOk z.2.2 (linesQ q st).out.length 7 (encG (linesQ q st).out)) (fun z => .nilIface) (fun z => (bM, z.1, 95) :: (HB bH z.2.2 (linesQ q st).out.length ((linesQ q st).bx) (.int .i32 (vn : Nat)) (.int .i32 (hn : Nat)) v7 ((linesQ q st).x) ((linesQ q st).y) ((linesQ q st).fx) ((linesQ q st).fy) ((linesQ q st).io) (.bool sm) (((linesQ q st).bx).isSome) ([.float .f64 (F 0), .float .f64 (F z.2.1)])) :: slH z.2.2 (encG (linesQ q st).out) 77)) := by
 have hml := hm.len
 have hms := hm.stl
 refine enter (n := 285) Tryz.func116 rfl rfl rfl hw ?_
 refine cR ?_
 refine l_gives rfl rfl (g_box (vs := [_, _]) rfl rfl) rfl ?_
 intro b5 hb5
 refine lA rfl ?_
 refine nR ?_
 refine lA rfl ?_
 refine nQ ?_
 refine c_seq ?_
 refine cR ?_
 refine lV (y_fieldAddr fo_117_1 rfl) ?_
 refine lV (y_load1 ld_4 rfl m0 rfl) ?_
 refine lV (y_not rfl) ?_
 refine nQ ?_
 refine c_true rfl rfl ?_
 refine cR ?_
 refine lV (y_fieldAddr fo_117_0 rfl) ?_
 refine lV (y_load1 ld_5 rfl m0 rfl) ?_
 refine nQ ?_
 refine c_block ?_
 refine cR ?_
 refine lB rfl rfl rfl rfl ?_
 refine lA rfl ?_
 refine nQ ?_
 refine c_false rfl rfl ?_
 refine cR ?_
 refine lB rfl rfl rfl rfl ?_
 refine lA rfl ?_
 refine nQ ?_
 refine c_false rfl rfl ?_
 refine cR ?_
 refine lB rfl rfl rfl rfl ?_
 refine lA rfl ?_
 refine nQ ?_
 refine c_false rfl rfl ?_
 refine cR ?_
 refine lB rfl rfl rfl rfl ?_
 refine lA rfl ?_
 refine nQ ?_
 refine c_false rfl rfl ?_
 refine cR ?_
 refine lB rfl rfl rfl rfl ?_
 refine lA rfl ?_
 refine nQ ?_
 refine c_false rfl rfl ?_
 refine cR ?_
 refine lB rfl rfl rfl rfl ?_
 refine lA rfl ?_
 refine nQ ?_
 refine c_false rfl rfl ?_
 refine cR ?_
 refine lB rfl rfl rfl rfl ?_
 refine lA rfl ?_
 refine nQ ?_
 refine c_false rfl rfl ?_
 refine c_seq ?_
 refine cR ?_
 refine lB rfl rfl rfl rfl ?_
 refine lA rfl ?_
 refine nQ ?_
 refine c_false rfl rfl ?_
 refine c_region ?_
 refine lB rfl rfl rfl rfl ?_
 refine lA rfl ?_
 refine nQ ?_
 refine c_false rfl rfl ?_
 refine c_seq ?_
 refine cR ?_
 refine lB rfl rfl rfl rfl ?_
 refine lA rfl ?_
 refine nQ ?_
 refine c_false rfl rfl ?_
 refine c_region ?_
 refine lB rfl rfl rfl rfl ?_
 refine lA rfl ?_
 refine nQ ?_
 refine c_false rfl rfl ?_
 refine c_seq ?_
 refine cR ?_
 refine lB rfl rfl rfl rfl ?_
 refine lA rfl ?_
 refine nQ ?_
 refine c_false rfl rfl ?_
 refine c_region ?_
 refine lB rfl rfl rfl rfl ?_
 refine lA rfl ?_
 refine nQ ?_
 refine c_false rfl rfl ?_
 refine cR ?_
 refine lB rfl rfl rfl rfl ?_
 refine lA rfl ?_
 refine nQ ?_
 refine c_true rfl rfl ?_
 refine c_region ?_
 refine lM rfl ?_
 refine lN rfl ?_
 refine lV (y_fieldAddr fo_99_0 rfl) ?_
 refine lM rfl ?_
 refine l_call ok_127 rfl rfl (out_tail (A := [_]) (H1 := (bM, Mc, 95) :: (HB bH so q.out.length q.bx (.int .i32 (vn : Nat)) (.int .i32 (hn : Nat)) v7 q.x q.y q.fx q.fy q.io (.bool sm) ((q.bx).isSome) ([.float .f64 (F 0), .float .f64 (F wq)])) :: slH so (encG q.out) 77) (fun w9 ha_ hb_ => f127_any w9 bH bM M q so (.int .i32 (vn : Nat)) (.int .i32 (hn : Nat)) v7 (.bool sm) [.float .f64 (F 0), .float .f64 (F wq)] st (by omega) hq hB hM hok hlen hc Mc lo gl ins fr hm hb_)) ?_
 intro so2 hok2
 have hm2 := hm.clear
 refine l_nil ?_
 refine q_block ?_
 refine qR ?_
 refine lM rfl ?_
 refine lN rfl ?_
 refine lV (y_fieldAddr fo_95_4 rfl) ?_
 refine l_call ok_141 rfl rfl (out_one [_] (b := (bM, (Mc.set 527 (.int .i32 0)), 95)) (fun w9 ha_ hb_ => f141_any w9 bM (Mc.set 527 (.int .i32 0)) _ _ _ _ _ hm2 hb_)) ?_
 intro _ _
 have hmC := hm2.clear
 refine nR ?_
 refine lM rfl ?_
 refine lA rfl ?_
 refine nQ ?_
 refine c_ret ?_
 exact body_ret (rs := [.tmp 6]) rfl (vs := [.nilIface]) ⟨rfl, trivial⟩ (out_end (((Mc.set 527 (.int .i32 0)).set 527 (.int .i32 0)), wq, so2) ⟨hmC, hok2⟩ rfl (.skip .refl)) _ (.inr rfl)
set_option maxHeartbeats 8000000 in
theorem ap_6 (w : World) (bM bH M : Nat) (Mc : List Value) (lo gl : Value) (ins : Value) (fr : List Value) (vn hn : Nat) (v7 : Value) (sm : Bool) (st : List Int)  (hvn : vn ≤ 1000000) (hhn : hn ≤ 1000000) (wq : Int) (q : QSt) (so : Sv) (hst : st.length ≤ 48) (hq : ∀ q ∈ st, Opd q) (hm : MOk Mc lo gl ins fr st) (hM : M + 120 * 2147483648 < 2 ^ 53) (hB : q.Bd M) (hok : slOk so q.out.length 7 (encG q.out)) (hlen : q.out.length ≤ 70000) (hw : Hp w (((bM, Mc, 95) :: (HB bH so q.out.length q.bx (.int .i32 (vn : Nat)) (.int .i32 (hn : Nat)) v7 q.x q.y q.fx q.fy q.io (.bool sm) ((q.bx).isSome) ([.float .f64 (F 0), .float .f64 (F wq)])) :: slH so (encG q.out) 77).map (·.1)) ((bM, Mc, 95) :: (HB bH so q.out.length q.bx (.int .i32 (vn : Nat)) (.int .i32 (hn : Nat)) v7 q.x q.y q.fx q.fy q.io (.bool sm) ((q.bx).isSome) ([.float .f64 (F 0), .float .f64 (F wq)])) :: slH so (encG q.out) 77) w) : Calls Tryz.prog 116 [.pointer (some ⟨bH, 0, none⟩), .pointer (some ⟨bM, 0, none⟩), .agg #[.int .u8 6, .bool false]].toArray w (Out w (((bM, Mc, 95) :: (HB bH so q.out.length q.bx (.int .i32 (vn : Nat)) (.int .i32 (hn : Nat)) v7 q.x q.y q.fx q.fy q.io (.bool sm) ((q.bx).isSome) ([.float .f64 (F 0), .float .f64 (F wq)])) :: slH so (encG q.out) 77).map (·.1)) (fun z : List Value × Int × Sv => MOk z.1 lo gl ins fr [] ∧ slOk z.2.2 (hvQ true q st).out.length 7 (encG (hvQ true q st).out)) (fun z => .nilIface) (fun z => (bM, z.1, 95) :: (HB bH z.2.2 (hvQ true q st).out.length ((hvQ true q st).bx) (.int .i32 (vn : Nat)) (.int .i32 (hn : Nat)) v7 ((hvQ true q st).x) ((hvQ true q st).y) ((hvQ true q st).fx) ((hvQ true q st).fy) ((hvQ true q st).io) (.bool sm) (((hvQ true q st).bx).isSome) ([.float .f64 (F 0), .float .f64 (F z.2.1)])) :: slH z.2.2 (encG (hvQ true q st).out) 77)) := by
 have hml := hm.len
 have hms := hm.stl
 refine enter (n := 285) Tryz.func116 rfl rfl rfl hw ?_
 refine cR ?_
 refine l_gives rfl rfl (g_box (vs := [_, _]) rfl rfl) rfl ?_
 intro b5 hb5
 refine lA rfl ?_
 refine nR ?_
 refine lA rfl ?_
 refine nQ ?_
 refine c_seq ?_
 refine cR ?_
 refine lV (y_fieldAddr fo_117_1 rfl) ?_
 refine lV (y_load1 ld_4 rfl m0 rfl) ?_
 refine lV (y_not rfl) ?_
 refine nQ ?_
 refine c_true rfl rfl ?_
 refine cR ?_
 refine lV (y_fieldAddr fo_117_0 rfl) ?_
 refine lV (y_load1 ld_5 rfl m0 rfl) ?_
 refine nQ ?_
 refine c_block ?_
 refine cR ?_
 refine lB rfl rfl rfl rfl ?_
 refine lA rfl ?_
 refine nQ ?_
 refine c_false rfl rfl ?_
 refine cR ?_
 refine lB rfl rfl rfl rfl ?_
 refine lA rfl ?_
 refine nQ ?_
 refine c_false rfl rfl ?_
 refine cR ?_
 refine lB rfl rfl rfl rfl ?_
 refine lA rfl ?_
 refine nQ ?_
 refine c_false rfl rfl ?_
 refine cR ?_
 refine lB rfl rfl rfl rfl ?_
 refine lA rfl ?_
 refine nQ ?_
 refine c_false rfl rfl ?_
 refine cR ?_
 refine lB rfl rfl rfl rfl ?_
 refine lA rfl ?_
 refine nQ ?_
 refine c_false rfl rfl ?_
 refine cR ?_
 refine lB rfl rfl rfl rfl ?_
 refine lA rfl ?_
 refine nQ ?_
 refine c_false rfl rfl ?_
 refine cR ?_
 refine lB rfl rfl rfl rfl ?_
 refine lA rfl ?_
 refine nQ ?_
 refine c_false rfl rfl ?_
 refine c_seq ?_
 refine cR ?_
 refine lB rfl rfl rfl rfl ?_
 refine lA rfl ?_
 refine nQ ?_
 refine c_false rfl rfl ?_
 refine c_region ?_
 refine lB rfl rfl rfl rfl ?_
 refine lA rfl ?_
 refine nQ ?_
 refine c_false rfl rfl ?_
 refine c_seq ?_
 refine cR ?_
 refine lB rfl rfl rfl rfl ?_
 refine lA rfl ?_
 refine nQ ?_
 refine c_false rfl rfl ?_
 refine c_region ?_
 refine lB rfl rfl rfl rfl ?_
 refine lA rfl ?_
 refine nQ ?_
 refine c_false rfl rfl ?_
 refine c_seq ?_
 refine cR ?_
 refine lB rfl rfl rfl rfl ?_
 refine lA rfl ?_
 refine nQ ?_
 refine c_false rfl rfl ?_
 refine c_region ?_
 refine lB rfl rfl rfl rfl ?_
 refine lA rfl ?_
 refine nQ ?_
 refine c_false rfl rfl ?_
 refine cR ?_
 refine lB rfl rfl rfl rfl ?_
 refine lA rfl ?_
 refine nQ ?_
 refine c_false rfl rfl ?_
 refine cR ?_
 refine lB rfl rfl rfl rfl ?_
 refine lA rfl ?_
 refine nQ ?_
 refine c_true rfl rfl ?_
 refine c_region ?_
 refine lM rfl ?_
 refine lN rfl ?_
 refine lV (y_fieldAddr fo_99_0 rfl) ?_
 refine lM rfl ?_
 refine l_call ok_128 rfl rfl (out_tail (A := [_, _]) (H1 := (HB bH so q.out.length q.bx (.int .i32 (vn : Nat)) (.int .i32 (hn : Nat)) v7 q.x q.y q.fx q.fy q.io (.bool sm) ((q.bx).isSome) ([.float .f64 (F 0), .float .f64 (F wq)])) :: slH so (encG q.out) 77) (fun w9 ha_ hb_ => f128_any w9 bH bM M q so (.int .i32 (vn : Nat)) (.int .i32 (hn : Nat)) v7 (.bool sm) [.float .f64 (F 0), .float .f64 (F wq)] st (by omega) hq hB hM hok hlen  (RdM_own (ha_.sub (.skip .refl)) hm) hb_)) ?_
 intro so2 hok2
 refine l_nil ?_
 refine q_block ?_
 refine qR ?_
 refine lM rfl ?_
 refine lN rfl ?_
 refine lV (y_fieldAddr fo_95_4 rfl) ?_
 refine l_call ok_141 rfl rfl (out_one [_] (b := (bM, Mc, 95)) (fun w9 ha_ hb_ => f141_any w9 bM Mc _ _ _ _ _ hm hb_)) ?_
 intro _ _
 have hmC := hm.clear
 refine nR ?_
 refine lM rfl ?_
 refine lA rfl ?_
 refine nQ ?_
 refine c_ret ?_
 exact body_ret (rs := [.tmp 6]) rfl (vs := [.nilIface]) ⟨rfl, trivial⟩ (out_end ((Mc.set 527 (.int .i32 0)), wq, so2) ⟨hmC, hok2⟩ rfl (.skip .refl)) _ (.inr rfl)
set_option maxHeartbeats 8000000 in
theorem ap_7 (w : World) (bM bH M : Nat) (Mc : List Value) (lo gl : Value) (ins : Value) (fr : List Value) (vn hn : Nat) (v7 : Value) (sm : Bool) (st : List Int)  (hvn : vn ≤ 1000000) (hhn : hn ≤ 1000000) (wq : Int) (q : QSt) (so : Sv) (hst : st.length ≤ 48) (hq : ∀ q ∈ st, Opd q) (hm : MOk Mc lo gl ins fr st) (hM : M + 120 * 2147483648 < 2 ^ 53) (hB : q.Bd M) (hok : slOk so q.out.length 7 (encG q.out)) (hlen : q.out.length ≤ 70000) (hw : Hp w (((bM, Mc, 95) :: (HB bH so q.out.length q.bx (.int .i32 (vn : Nat)) (.int .i32 (hn : Nat)) v7 q.x q.y q.fx q.fy q.io (.bool sm) ((q.bx).isSome) ([.float .f64 (F 0), .float .f64 (F wq)])) :: slH so (encG q.out) 77).map (·.1)) ((bM, Mc, 95) :: (HB bH so q.out.length q.bx (.int .i32 (vn : Nat)) (.int .i32 (hn : Nat)) v7 q.x q.y q.fx q.fy q.io (.bool sm) ((q.bx).isSome) ([.float .f64 (F 0), .float .f64 (F wq)])) :: slH so (encG q.out) 77) w) : Calls Tryz.prog 116 [.pointer (some ⟨bH, 0, none⟩), .pointer (some ⟨bM, 0, none⟩), .agg #[.int .u8 7, .bool false]].toArray w (Out w (((bM, Mc, 95) :: (HB bH so q.out.length q.bx (.int .i32 (vn : Nat)) (.int .i32 (hn : Nat)) v7 q.x q.y q.fx q.fy q.io (.bool sm) ((q.bx).isSome) ([.float .f64 (F 0), .float .f64 (F wq)])) :: slH so (encG q.out) 77).map (·.1)) (fun z : List Value × Int × Sv => MOk z.1 lo gl ins fr [] ∧ slOk z.2.2 (hvQ false q st).out.length 7 (encG (hvQ false q st).out)) (fun z => .nilIface) (fun z => (bM, z.1, 95) :: (HB bH z.2.2 (hvQ false q st).out.length ((hvQ false q st).bx) (.int .i32 (vn : Nat)) (.int .i32 (hn : Nat)) v7 ((hvQ false q st).x) ((hvQ false q st).y) ((hvQ false q st).fx) ((hvQ false q st).fy) ((hvQ false q st).io) (.bool sm) (((hvQ false q st).bx).isSome) ([.float .f64 (F 0), .float .f64 (F z.2.1)])) :: slH z.2.2 (encG (hvQ false q st).out) 77)) := by
 have hml := hm.len
 have hms := hm.stl
 refine enter (n := 285) Tryz.func116 rfl rfl rfl hw ?_
 refine cR ?_
 refine l_gives rfl rfl (g_box (vs := [_, _]) rfl rfl) rfl ?_
 intro b5 hb5
 refine lA rfl ?_
 refine nR ?_
 refine lA rfl ?_
 refine nQ ?_
 refine c_seq ?_
 refine cR ?_
 refine lV (y_fieldAddr fo_117_1 rfl) ?_
 refine lV (y_load1 ld_4 rfl m0 rfl) ?_
 refine lV (y_not rfl) ?_
 refine nQ ?_
 refine c_true rfl rfl ?_
 refine cR ?_
 refine lV (y_fieldAddr fo_117_0 rfl) ?_
 refine lV (y_load1 ld_5 rfl m0 rfl) ?_
 refine nQ ?_
 refine c_block ?_
 refine cR ?_
 refine lB rfl rfl rfl rfl ?_
 refine lA rfl ?_
 refine nQ ?_
 refine c_false rfl rfl ?_
 refine cR ?_
 refine lB rfl rfl rfl rfl ?_
 refine lA rfl ?_
 refine nQ ?_
 refine c_false rfl rfl ?_
 refine cR ?_
 refine lB rfl rfl rfl rfl ?_
 refine lA rfl ?_
 refine nQ ?_
 refine c_false rfl rfl ?_
 refine cR ?_
 refine lB rfl rfl rfl rfl ?_
 refine lA rfl ?_
 refine nQ ?_
 refine c_false rfl rfl ?_
 refine cR ?_
 refine lB rfl rfl rfl rfl ?_
 refine lA rfl ?_
 refine nQ ?_
 refine c_false rfl rfl ?_
 refine cR ?_
 refine lB rfl rfl rfl rfl ?_
 refine lA rfl ?_
 refine nQ ?_
 refine c_false rfl rfl ?_
 refine cR ?_
 refine lB rfl rfl rfl rfl ?_
 refine lA rfl ?_
 refine nQ ?_
 refine c_false rfl rfl ?_
 refine c_seq ?_
 refine cR ?_
 refine lB rfl rfl rfl rfl ?_
 refine lA rfl ?_
 refine nQ ?_
 refine c_false rfl rfl ?_
 refine c_region ?_
 refine lB rfl rfl rfl rfl ?_
 refine lA rfl ?_
 refine nQ ?_
 refine c_false rfl rfl ?_
 refine c_seq ?_
 refine cR ?_
 refine lB rfl rfl rfl rfl ?_
 refine lA rfl ?_
 refine nQ ?_
 refine c_false rfl rfl ?_
 refine c_region ?_
 refine lB rfl rfl rfl rfl ?_
 refine lA rfl ?_
 refine nQ ?_
 refine c_false rfl rfl ?_
 refine c_seq ?_
 refine cR ?_
 refine lB rfl rfl rfl rfl ?_
 refine lA rfl ?_
 refine nQ ?_
 refine c_false rfl rfl ?_
 refine c_region ?_
 refine lB rfl rfl rfl rfl ?_
 refine lA rfl ?_
 refine nQ ?_
 refine c_false rfl rfl ?_
 refine cR ?_
 refine lB rfl rfl rfl rfl ?_
 refine lA rfl ?_
 refine nQ ?_
 refine c_false rfl rfl ?_
 refine cR ?_
 refine lB rfl rfl rfl rfl ?_
 refine lA rfl ?_
 refine nQ ?_
 refine c_false rfl rfl ?_
 refine cR ?_
 refine lB rfl rfl rfl rfl ?_
 refine lA rfl ?_
 refine nQ ?_
 refine c_true rfl rfl ?_
 refine c_region ?_
 refine lM rfl ?_
 refine lN rfl ?_
 refine lV (y_fieldAddr fo_99_0 rfl) ?_
 refine lM rfl ?_
 refine l_call ok_129 rfl rfl (out_tail (A := [_, _]) (H1 := (HB bH so q.out.length q.bx (.int .i32 (vn : Nat)) (.int .i32 (hn : Nat)) v7 q.x q.y q.fx q.fy q.io (.bool sm) ((q.bx).isSome) ([.float .f64 (F 0), .float .f64 (F wq)])) :: slH so (encG q.out) 77) (fun w9 ha_ hb_ => f129_any w9 bH bM M q so (.int .i32 (vn : Nat)) (.int .i32 (hn : Nat)) v7 (.bool sm) [.float .f64 (F 0), .float .f64 (F wq)] st (by omega) hq hB hM hok hlen  (RdM_own (ha_.sub (.skip .refl)) hm) hb_)) ?_
 intro so2 hok2
 refine l_nil ?_
 refine q_block ?_
 refine qR ?_
 refine lM rfl ?_
 refine lN rfl ?_
 refine lV (y_fieldAddr fo_95_4 rfl) ?_
 refine l_call ok_141 rfl rfl (out_one [_] (b := (bM, Mc, 95)) (fun w9 ha_ hb_ => f141_any w9 bM Mc _ _ _ _ _ hm hb_)) ?_
 intro _ _
 have hmC := hm.clear
 refine nR ?_
 refine lM rfl ?_
 refine lA rfl ?_
 refine nQ ?_
 refine c_ret ?_
 exact body_ret (rs := [.tmp 6]) rfl (vs := [.nilIface]) ⟨rfl, trivial⟩ (out_end ((Mc.set 527 (.int .i32 0)), wq, so2) ⟨hmC, hok2⟩ rfl (.skip .refl)) _ (.inr rfl)
set_option maxHeartbeats 8000000 in
theorem ap_8 (w : World) (bM bH M : Nat) (Mc : List Value) (lo gl : Value) (ins : Value) (fr : List Value) (vn hn : Nat) (v7 : Value) (sm : Bool) (st : List Int) (hc : st.length % 6 = 0) (hvn : vn ≤ 1000000) (hhn : hn ≤ 1000000) (wq : Int) (q : QSt) (so : Sv) (hst : st.length ≤ 48) (hq : ∀ q ∈ st, Opd q) (hm : MOk Mc lo gl ins fr st) (hM : M + 120 * 2147483648 < 2 ^ 53) (hB : q.Bd M) (hok : slOk so q.out.length 7 (encG q.out)) (hlen : q.out.length ≤ 70000) (hw : Hp w (((bM, Mc, 95) :: (HB bH so q.out.length q.bx (.int .i32 (vn : Nat)) (.int .i32 (hn : Nat)) v7 q.x q.y q.fx q.fy q.io (.bool sm) ((q.bx).isSome) ([.float .f64 (F 0), .float .f64 (F wq)])) :: slH so (encG q.out) 77).map (·.1)) ((bM, Mc, 95) :: (HB bH so q.out.length q.bx (.int .i32 (vn : Nat)) (.int .i32 (hn : Nat)) v7 q.x q.y q.fx q.fy q.io (.bool sm) ((q.bx).isSome) ([.float .f64 (F 0), .float .f64 (F wq)])) :: slH so (encG q.out) 77) w) : Calls Tryz.prog 116 [.pointer (some ⟨bH, 0, none⟩), .pointer (some ⟨bM, 0, none⟩), .agg #[.int .u8 8, .bool false]].toArray w (Out w (((bM, Mc, 95) :: (HB bH so q.out.length q.bx (.int .i32 (vn : Nat)) (.int .i32 (hn : Nat)) v7 q.x q.y q.fx q.fy q.io (.bool sm) ((q.bx).isSome) ([.float .f64 (F 0), .float .f64 (F wq)])) :: slH so (encG q.out) 77).map (·.1)) (fun z : List Value × Int × Sv => MOk z.1 lo gl ins fr [] ∧ slOk z.2.2 (curvesQ q st).out.length 7 (encG (curvesQ q st).out)) (fun z => .nilIface) (fun z => (bM, z.1, 95) :: (HB bH z.2.2 (curvesQ q st).out.length ((curvesQ q st).bx) (.int .i32 (vn : Nat)) (.int .i32 (hn : Nat)) v7 ((curvesQ q st).x) ((curvesQ q st).y) ((curvesQ q st).fx) ((curvesQ q st).fy) ((curvesQ q st).io) (.bool sm) (((curvesQ q st).bx).isSome) ([.float .f64 (F 0), .float .f64 (F z.2.1)])) :: slH z.2.2 (encG (curvesQ q st).out) 77)) := by
 have hml := hm.len
 have hms := hm.stl
 refine enter (n := 285) Tryz.func116 rfl rfl rfl hw ?_
 refine cR ?_
 refine l_gives rfl rfl (g_box (vs := [_, _]) rfl rfl) rfl ?_
 intro b5 hb5
 refine lA rfl ?_
 refine nR ?_
 refine lA rfl ?_
 refine nQ ?_
 refine c_seq ?_
 refine cR ?_
 refine lV (y_fieldAddr fo_117_1 rfl) ?_
 refine lV (y_load1 ld_4 rfl m0 rfl) ?_
 refine lV (y_not rfl) ?_
 refine nQ ?_
 refine c_true rfl rfl ?_
 refine cR ?_
 refine lV (y_fieldAddr fo_117_0 rfl) ?_
 refine lV (y_load1 ld_5 rfl m0 rfl) ?_
 refine nQ ?_
 refine c_block ?_
 refine cR ?_
 refine lB rfl rfl rfl rfl ?_
 refine lA rfl ?_
 refine nQ ?_
 refine c_false rfl rfl ?_
 refine cR ?_
 refine lB rfl rfl rfl rfl ?_
 refine lA rfl ?_
 refine nQ ?_
 refine c_false rfl rfl ?_
 refine cR ?_
 refine lB rfl rfl rfl rfl ?_
 refine lA rfl ?_
 refine nQ ?_
 refine c_false rfl rfl ?_
 refine cR ?_
 refine lB rfl rfl rfl rfl ?_
 refine lA rfl ?_
 refine nQ ?_
 refine c_false rfl rfl ?_
 refine cR ?_
 refine lB rfl rfl rfl rfl ?_
 refine lA rfl ?_
 refine nQ ?_
 refine c_false rfl rfl ?_
 refine cR ?_
 refine lB rfl rfl rfl rfl ?_
 refine lA rfl ?_
 refine nQ ?_
 refine c_false rfl rfl ?_
 refine cR ?_
 refine lB rfl rfl rfl rfl ?_
 refine lA rfl ?_
 refine nQ ?_
 refine c_false rfl rfl ?_
 refine c_seq ?_
 refine cR ?_
 refine lB rfl rfl rfl rfl ?_
 refine lA rfl ?_
 refine nQ ?_
 refine c_false rfl rfl ?_
 refine c_region ?_
 refine lB rfl rfl rfl rfl ?_
 refine lA rfl ?_
 refine nQ ?_
 refine c_false rfl rfl ?_
 refine c_seq ?_
 refine cR ?_
 refine lB rfl rfl rfl rfl ?_
 refine lA rfl ?_
 refine nQ ?_
 refine c_false rfl rfl ?_
 refine c_region ?_
 refine lB rfl rfl rfl rfl ?_
 refine lA rfl ?_
 refine nQ ?_
 refine c_false rfl rfl ?_
 refine c_seq ?_
 refine cR ?_
 refine lB rfl rfl rfl rfl ?_
 refine lA rfl ?_
 refine nQ ?_
 refine c_false rfl rfl ?_
 refine c_region ?_
 refine lB rfl rfl rfl rfl ?_
 refine lA rfl ?_
 refine nQ ?_
 refine c_false rfl rfl ?_
 refine cR ?_
 refine lB rfl rfl rfl rfl ?_
 refine lA rfl ?_
 refine nQ ?_
 refine c_false rfl rfl ?_
 refine cR ?_
 refine lB rfl rfl rfl rfl ?_
 refine lA rfl ?_
 refine nQ ?_
 refine c_false rfl rfl ?_
 refine cR ?_
 refine lB rfl rfl rfl rfl ?_
 refine lA rfl ?_
 refine nQ ?_
 refine c_false rfl rfl ?_
 refine cR ?_
 refine lB rfl rfl rfl rfl ?_
 refine lA rfl ?_
 refine nQ ?_
 refine c_true rfl rfl ?_
 refine c_region ?_
 refine lM rfl ?_
 refine lN rfl ?_
 refine lV (y_fieldAddr fo_99_0 rfl) ?_
 refine lM rfl ?_
 refine l_call ok_130 rfl rfl (out_tail (A := [_, _]) (H1 := (HB bH so q.out.length q.bx (.int .i32 (vn : Nat)) (.int .i32 (hn : Nat)) v7 q.x q.y q.fx q.fy q.io (.bool sm) ((q.bx).isSome) ([.float .f64 (F 0), .float .f64 (F wq)])) :: slH so (encG q.out) 77) (fun w9 ha_ hb_ => f130_any w9 bH bM M q so (.int .i32 (vn : Nat)) (.int .i32 (hn : Nat)) v7 (.bool sm) [.float .f64 (F 0), .float .f64 (F wq)] st (by omega) hq hB hM hok hlen hc (RdM_own (ha_.sub (.skip .refl)) hm) hb_)) ?_
 intro so2 hok2
 refine l_nil ?_
 refine q_block ?_
 refine qR ?_
 refine lM rfl ?_
 refine lN rfl ?_
 refine lV (y_fieldAddr fo_95_4 rfl) ?_
 refine l_call ok_141 rfl rfl (out_one [_] (b := (bM, Mc, 95)) (fun w9 ha_ hb_ => f141_any w9 bM Mc _ _ _ _ _ hm hb_)) ?_
 intro _ _
 have hmC := hm.clear
 refine nR ?_
 refine lM rfl ?_
 refine lA rfl ?_
 refine nQ ?_
 refine c_ret ?_
 exact body_ret (rs := [.tmp 6]) rfl (vs := [.nilIface]) ⟨rfl, trivial⟩ (out_end ((Mc.set 527 (.int .i32 0)), wq, so2) ⟨hmC, hok2⟩ rfl (.skip .refl)) _ (.inr rfl)
set_option maxHeartbeats 8000000 in
theorem ap_24 (w : World) (bM bH M : Nat) (Mc : List Value) (lo gl : Value) (ins : Value) (fr : List Value) (vn hn : Nat) (v7 : Value) (sm : Bool) (st : List Int) (h8 : 8 ≤ st.length) (hc : st.length % 6 = 2) (hvn : vn ≤ 1000000) (hhn : hn ≤ 1000000) (wq : Int) (q : QSt) (so : Sv) (hst : st.length ≤ 48) (hq : ∀ q ∈ st, Opd q) (hm : MOk Mc lo gl ins fr st) (hM : M + 120 * 2147483648 < 2 ^ 53) (hB : q.Bd M) (hok : slOk so q.out.length 7 (encG q.out)) (hlen : q.out.length ≤ 70000) (hw : Hp w (((bM, Mc, 95) :: (HB bH so q.out.length q.bx (.int .i32 (vn : Nat)) (.int .i32 (hn : Nat)) v7 q.x q.y q.fx q.fy q.io (.bool sm) ((q.bx).isSome) ([.float .f64 (F 0), .float .f64 (F wq)])) :: slH so (encG q.out) 77).map (·.1)) ((bM, Mc, 95) :: (HB bH so q.out.length q.bx (.int .i32 (vn : Nat)) (.int .i32 (hn : Nat)) v7 q.x q.y q.fx q.fy q.io (.bool sm) ((q.bx).isSome) ([.float .f64 (F 0), .float .f64 (F wq)])) :: slH so (encG q.out) 77) w) : Calls Tryz.prog 116 [.pointer (some ⟨bH, 0, none⟩), .pointer (some ⟨bM, 0, none⟩), .agg #[.int .u8 24, .bool false]].toArray w (Out w (((bM, Mc, 95) :: (HB bH so q.out.length q.bx (.int .i32 (vn : Nat)) (.int .i32 (hn : Nat)) v7 q.x q.y q.fx q.fy q.io (.bool sm) ((q.bx).isSome) ([.float .f64 (F 0), .float .f64 (F wq)])) :: slH so (encG q.out) 77).map (·.1)) (fun z : List Value × Int × Sv => MOk z.1 lo gl ins fr [] ∧ slOk z.2.2 (linesQ (curvesQ q (st.take (st.length - 2))) (st.drop (st.length - 2))).out.length 7 (encG (linesQ (curvesQ q (st.take (st.length - 2))) (st.drop (st.length - 2))).out)) (fun z => .nilIface) (fun z => (bM, z.1, 95) :: (HB bH z.2.2 (linesQ (curvesQ q (st.take (st.length - 2))) (st.drop (st.length - 2))).out.length ((linesQ (curvesQ q (st.take (st.length - 2))) (st.drop (st.length - 2))).bx) (.int .i32 (vn : Nat)) (.int .i32 (hn : Nat)) v7 ((linesQ (curvesQ q (st.take (st.length - 2))) (st.drop (st.length - 2))).x) ((linesQ (curvesQ q (st.take (st.length - 2))) (st.drop (st.length - 2))).y) ((linesQ (curvesQ q (st.take (st.length - 2))) (st.drop (st.length - 2))).fx) ((linesQ (curvesQ q (st.take (st.length - 2))) (st.drop (st.length - 2))).fy) ((linesQ (curvesQ q (st.take (st.length - 2))) (st.drop (st.length - 2))).io) (.bool sm) (((linesQ (curvesQ q (st.take (st.length - 2))) (st.drop (st.length - 2))).bx).isSome) ([.float .f64 (F 0), .float .f64 (F z.2.1)])) :: slH z.2.2 (encG (linesQ (curvesQ q (st.take (st.length - 2))) (st.drop (st.length - 2))).out) 77)) := by
 have hml := hm.len
 have hms := hm.stl
 refine enter (n := 285) Tryz.func116 rfl rfl rfl hw ?_
 refine cR ?_
 refine l_gives rfl rfl (g_box (vs := [_, _]) rfl rfl) rfl ?_
 intro b5 hb5
 refine lA rfl ?_
 refine nR ?_
 refine lA rfl ?_
 refine nQ ?_
 refine c_seq ?_
 refine cR ?_
 refine lV (y_fieldAddr fo_117_1 rfl) ?_
 refine lV (y_load1 ld_4 rfl m0 rfl) ?_
 refine lV (y_not rfl) ?_
 refine nQ ?_
 refine c_true rfl rfl ?_
 refine cR ?_
 refine lV (y_fieldAddr fo_117_0 rfl) ?_
 refine lV (y_load1 ld_5 rfl m0 rfl) ?_
 refine nQ ?_
 refine c_block ?_
 refine cR ?_
 refine lB rfl rfl rfl rfl ?_
 refine lA rfl ?_
 refine nQ ?_
 refine c_false rfl rfl ?_
 refine cR ?_
 refine lB rfl rfl rfl rfl ?_
 refine lA rfl ?_
 refine nQ ?_
 refine c_false rfl rfl ?_
 refine cR ?_
 refine lB rfl rfl rfl rfl ?_
 refine lA rfl ?_
 refine nQ ?_
 refine c_false rfl rfl ?_
 refine cR ?_
 refine lB rfl rfl rfl rfl ?_
 refine lA rfl ?_
 refine nQ ?_
 refine c_false rfl rfl ?_
 refine cR ?_
 refine lB rfl rfl rfl rfl ?_
 refine lA rfl ?_
 refine nQ ?_
 refine c_false rfl rfl ?_
 refine cR ?_
 refine lB rfl rfl rfl rfl ?_
 refine lA rfl ?_
 refine nQ ?_
 refine c_false rfl rfl ?_
 refine cR ?_
 refine lB rfl rfl rfl rfl ?_
 refine lA rfl ?_
 refine nQ ?_
 refine c_false rfl rfl ?_
 refine c_seq ?_
 refine cR ?_
 refine lB rfl rfl rfl rfl ?_
 refine lA rfl ?_
 refine nQ ?_
 refine c_false rfl rfl ?_
 refine c_region ?_
 refine lB rfl rfl rfl rfl ?_
 refine lA rfl ?_
 refine nQ ?_
 refine c_false rfl rfl ?_
 refine c_seq ?_
 refine cR ?_
 refine lB rfl rfl rfl rfl ?_
 refine lA rfl ?_
 refine nQ ?_
 refine c_false rfl rfl ?_
 refine c_region ?_
 refine lB rfl rfl rfl rfl ?_
 refine lA rfl ?_
 refine nQ ?_
 refine c_false rfl rfl ?_
 refine c_seq ?_
 refine cR ?_
 refine lB rfl rfl rfl rfl ?_
 refine lA rfl ?_
 refine nQ ?_
 refine c_false rfl rfl ?_
 refine c_region ?_
 refine lB rfl rfl rfl rfl ?_
 refine lA rfl ?_
 refine nQ ?_
 refine c_false rfl rfl ?_
 refine cR ?_
 refine lB rfl rfl rfl rfl ?_
 refine lA rfl ?_
 refine nQ ?_
 refine c_false rfl rfl ?_
 refine cR ?_
 refine lB rfl rfl rfl rfl ?_
 refine lA rfl ?_
 refine nQ ?_
 refine c_false rfl rfl ?_
 refine cR ?_
 refine lB rfl rfl rfl rfl ?_
 refine lA rfl ?_
 refine nQ ?_
 refine c_false rfl rfl ?_
 refine cR ?_
 refine lB rfl rfl rfl rfl ?_
 refine lA rfl ?_
 refine nQ ?_
 refine c_false rfl rfl ?_
 refine cR ?_
 refine lB rfl rfl rfl rfl ?_
 refine lA rfl ?_
 refine nQ ?_
 refine c_true rfl rfl ?_
 refine c_region ?_
 refine lM rfl ?_
 refine lN rfl ?_
 refine lV (y_fieldAddr fo_99_0 rfl) ?_
 refine lM rfl ?_
 refine l_call ok_131 rfl rfl (out_tail (A := [_, _]) (H1 := (HB bH so q.out.length q.bx (.int .i32 (vn : Nat)) (.int .i32 (hn : Nat)) v7 q.x q.y q.fx q.fy q.io (.bool sm) ((q.bx).isSome) ([.float .f64 (F 0), .float .f64 (F wq)])) :: slH so (encG q.out) 77) (fun w9 ha_ hb_ => f131_any w9 bH bM M q so (.int .i32 (vn : Nat)) (.int .i32 (hn : Nat)) v7 (.bool sm) [.float .f64 (F 0), .float .f64 (F wq)] st (by omega) hq hB hM hok hlen h8 hc (RdM_own (ha_.sub (.skip .refl)) hm) hb_)) ?_
 intro so2 hok2
 refine lA rfl ?_
 refine l_nil ?_
 refine q_block ?_
 refine qR ?_
 refine lM rfl ?_
 refine lN rfl ?_
 refine lV (y_fieldAddr fo_95_4 rfl) ?_
 refine l_call ok_141 rfl rfl (out_one [_] (b := (bM, Mc, 95)) (fun w9 ha_ hb_ => f141_any w9 bM Mc _ _ _ _ _ hm hb_)) ?_
 intro _ _
 have hmC := hm.clear
 refine nR ?_
 refine lM rfl ?_
 refine lA rfl ?_
 refine nQ ?_
 refine c_ret ?_
 exact body_ret (rs := [.tmp 6]) rfl (vs := [.nilIface]) ⟨rfl, trivial⟩ (out_end ((Mc.set 527 (.int .i32 0)), wq, so2) ⟨hmC, hok2⟩ rfl (.skip .refl)) _ (.inr rfl)
set_option maxHeartbeats 8000000 in
theorem ap_25 (w : World) (bM bH M : Nat) (Mc : List Value) (lo gl : Value) (ins : Value) (fr : List Value) (vn hn : Nat) (v7 : Value) (sm : Bool) (st : List Int) (h8 : 8 ≤ st.length) (hc : st.length % 2 = 0) (hvn : vn ≤ 1000000) (hhn : hn ≤ 1000000) (wq : Int) (q : QSt) (so : Sv) (hst : st.length ≤ 48) (hq : ∀ q ∈ st, Opd q) (hm : MOk Mc lo gl ins fr st) (hM : M + 120 * 2147483648 < 2 ^ 53) (hB : q.Bd M) (hok : slOk so q.out.length 7 (encG q.out)) (hlen : q.out.length ≤ 70000) (hw : Hp w (((bM, Mc, 95) :: (HB bH so q.out.length q.bx (.int .i32 (vn : Nat)) (.int .i32 (hn : Nat)) v7 q.x q.y q.fx q.fy q.io (.bool sm) ((q.bx).isSome) ([.float .f64 (F 0), .float .f64 (F wq)])) :: slH so (encG q.out) 77).map (·.1)) ((bM, Mc, 95) :: (HB bH so q.out.length q.bx (.int .i32 (vn : Nat)) (.int .i32 (hn : Nat)) v7 q.x q.y q.fx q.fy q.io (.bool sm) ((q.bx).isSome) ([.float .f64 (F 0), .float .f64 (F wq)])) :: slH so (encG q.out) 77) w) : Calls Tryz.prog 116 [.pointer (some ⟨bH, 0, none⟩), .pointer (some ⟨bM, 0, none⟩), .agg #[.int .u8 25, .bool false]].toArray w (Out w (((bM, Mc, 95) :: (HB bH so q.out.length q.bx (.int .i32 (vn : Nat)) (.int .i32 (hn : Nat)) v7 q.x q.y q.fx q.fy q.io (.bool sm) ((q.bx).isSome) ([.float .f64 (F 0), .float .f64 (F wq)])) :: slH so (encG q.out) 77).map (·.1)) (fun z : List Value × Int × Sv => MOk z.1 lo gl ins fr [] ∧ slOk z.2.2 (curvesQ (linesQ q (st.take (st.length - 6))) (st.drop (st.length - 6))).out.length 7 (encG (curvesQ (linesQ q (st.take (st.length - 6))) (st.drop (st.length - 6))).out)) (fun z => .nilIface) (fun z => (bM, z.1, 95) :: (HB bH z.2.2 (curvesQ (linesQ q (st.take (st.length - 6))) (st.drop (st.length - 6))).out.length ((curvesQ (linesQ q (st.take (st.length - 6))) (st.drop (st.length - 6))).bx) (.int .i32 (vn : Nat)) (.int .i32 (hn : Nat)) v7 ((curvesQ (linesQ q (st.take (st.length - 6))) (st.drop (st.length - 6))).x) ((curvesQ (linesQ q (st.take (st.length - 6))) (st.drop (st.length - 6))).y) ((curvesQ (linesQ q (st.take (st.length - 6))) (st.drop (st.length - 6))).fx) ((curvesQ (linesQ q (st.take (st.length - 6))) (st.drop (st.length - 6))).fy) ((curvesQ (linesQ q (st.take (st.length - 6))) (st.drop (st.length - 6))).io) (.bool sm) (((curvesQ (linesQ q (st.take (st.length - 6))) (st.drop (st.length - 6))).bx).isSome) ([.float .f64 (F 0), .float .f64 (F z.2.1)])) :: slH z.2.2 (encG (curvesQ (linesQ q (st.take (st.length - 6))) (st.drop (st.length - 6))).out) 77)) := by
 have hml := hm.len
 have hms := hm.stl
 refine enter (n := 285) Tryz.func116 rfl rfl rfl hw ?_
 refine cR ?_
 refine l_gives rfl rfl (g_box (vs := [_, _]) rfl rfl) rfl ?_
 intro b5 hb5
 refine lA rfl ?_
 refine nR ?_
 refine lA rfl ?_
 refine nQ ?_
 refine c_seq ?_
 refine cR ?_
 refine lV (y_fieldAddr fo_117_1 rfl) ?_
 refine lV (y_load1 ld_4 rfl m0 rfl) ?_
 refine lV (y_not rfl) ?_
 refine nQ ?_
 refine c_true rfl rfl ?_
 refine cR ?_
 refine lV (y_fieldAddr fo_117_0 rfl) ?_
 refine lV (y_load1 ld_5 rfl m0 rfl) ?_
 refine nQ ?_
 refine c_block ?_
 refine cR ?_
 refine lB rfl rfl rfl rfl ?_
 refine lA rfl ?_
 refine nQ ?_
 refine c_false rfl rfl ?_
 refine cR ?_
 refine lB rfl rfl rfl rfl ?_
 refine lA rfl ?_
 refine nQ ?_
 refine c_false rfl rfl ?_
 refine cR ?_
 refine lB rfl rfl rfl rfl ?_
 refine lA rfl ?_
 refine nQ ?_
 refine c_false rfl rfl ?_
 refine cR ?_
 refine lB rfl rfl rfl rfl ?_
 refine lA rfl ?_
 refine nQ ?_
 refine c_false rfl rfl ?_
 refine cR ?_
 refine lB rfl rfl rfl rfl ?_
 refine lA rfl ?_
 refine nQ ?_
 refine c_false rfl rfl ?_
 refine cR ?_
 refine lB rfl rfl rfl rfl ?_
 refine lA rfl ?_
 refine nQ ?_
 refine c_false rfl rfl ?_
 refine cR ?_
 refine lB rfl rfl rfl rfl ?_
 refine lA rfl ?_
 refine nQ ?_
 refine c_false rfl rfl ?_
 refine c_seq ?_
 refine cR ?_
 refine lB rfl rfl rfl rfl ?_
 refine lA rfl ?_
 refine nQ ?_
 refine c_false rfl rfl ?_
 refine c_region ?_
 refine lB rfl rfl rfl rfl ?_
 refine lA rfl ?_
 refine nQ ?_
 refine c_false rfl rfl ?_
 refine c_seq ?_
 refine cR ?_
 refine lB rfl rfl rfl rfl ?_
 refine lA rfl ?_
 refine nQ ?_
 refine c_false rfl rfl ?_
 refine c_region ?_
 refine lB rfl rfl rfl rfl ?_
 refine lA rfl ?_
 refine nQ ?_
 refine c_false rfl rfl ?_
 refine c_seq ?_
 refine cR ?_
 refine lB rfl rfl rfl rfl ?_
 refine lA rfl ?_
 refine nQ ?_
 refine c_false rfl rfl ?_
 refine c_region ?_
 refine lB rfl rfl rfl rfl ?_
 refine lA rfl ?_
 refine nQ ?_
 refine c_false rfl rfl ?_
 refine cR ?_
 refine lB rfl rfl rfl rfl ?_
 refine lA rfl ?_
 refine nQ ?_
 refine c_false rfl rfl ?_
 refine cR ?_
 refine lB rfl rfl rfl rfl ?_
 refine lA rfl ?_
 refine nQ ?_
 refine c_false rfl rfl ?_
 refine cR ?_
 refine lB rfl rfl rfl rfl ?_
 refine lA rfl ?_
 refine nQ ?_
 refine c_false rfl rfl ?_
 refine cR ?_
 refine lB rfl rfl rfl rfl ?_
 refine lA rfl ?_
 refine nQ ?_
 refine c_false rfl rfl ?_
 refine cR ?_
 refine lB rfl rfl rfl rfl ?_
 refine lA rfl ?_
 refine nQ ?_
 refine c_false rfl rfl ?_
 refine cR ?_
 refine lB rfl rfl rfl rfl ?_
 refine lA rfl ?_
 refine nQ ?_
 refine c_true rfl rfl ?_
 refine c_region ?_
 refine lM rfl ?_
 refine lN rfl ?_
 refine lV (y_fieldAddr fo_99_0 rfl) ?_
 refine lM rfl ?_
 refine l_call ok_132 rfl rfl (out_tail (A := [_, _]) (H1 := (HB bH so q.out.length q.bx (.int .i32 (vn : Nat)) (.int .i32 (hn : Nat)) v7 q.x q.y q.fx q.fy q.io (.bool sm) ((q.bx).isSome) ([.float .f64 (F 0), .float .f64 (F wq)])) :: slH so (encG q.out) 77) (fun w9 ha_ hb_ => f132_any w9 bH bM M q so (.int .i32 (vn : Nat)) (.int .i32 (hn : Nat)) v7 (.bool sm) [.float .f64 (F 0), .float .f64 (F wq)] st (by omega) hq hB hM hok hlen h8 hc (RdM_own (ha_.sub (.skip .refl)) hm) hb_)) ?_
 intro so2 hok2
 refine lA rfl ?_
 refine l_nil ?_
 refine q_block ?_
 refine qR ?_
 refine lM rfl ?_
 refine lN rfl ?_
 refine lV (y_fieldAddr fo_95_4 rfl) ?_
 refine l_call ok_141 rfl rfl (out_one [_] (b := (bM, Mc, 95)) (fun w9 ha_ hb_ => f141_any w9 bM Mc _ _ _ _ _ hm hb_)) ?_
 intro _ _
 have hmC := hm.clear
 refine nR ?_
 refine lM rfl ?_
 refine lA rfl ?_
 refine nQ ?_
 refine c_ret ?_
 exact body_ret (rs := [.tmp 6]) rfl (vs := [.nilIface]) ⟨rfl, trivial⟩ (out_end ((Mc.set 527 (.int .i32 0)), wq, so2) ⟨hmC, hok2⟩ rfl (.skip .refl)) _ (.inr rfl)
set_option maxHeartbeats 8000000 in
theorem ap_26 (w : World) (bM bH M : Nat) (Mc : List Value) (lo gl : Value) (ins : Value) (fr : List Value) (vn hn : Nat) (v7 : Value) (sm : Bool) (st : List Int) (h4n : 4 ≤ st.length) (h4m : st.length % 4 < 2) (hvn : vn ≤ 1000000) (hhn : hn ≤ 1000000) (wq : Int) (q : QSt) (so : Sv) (hst : st.length ≤ 48) (hq : ∀ q ∈ st, Opd q) (hm : MOk Mc lo gl ins fr st) (hM : M + 120 * 2147483648 < 2 ^ 53) (hB : q.Bd M) (hok : slOk so q.out.length 7 (encG q.out)) (hlen : q.out.length ≤ 70000) (hw : Hp w (((bM, Mc, 95) :: (HB bH so q.out.length q.bx (.int .i32 (vn : Nat)) (.int .i32 (hn : Nat)) v7 q.x q.y q.fx q.fy q.io (.bool sm) ((q.bx).isSome) ([.float .f64 (F 0), .float .f64 (F wq)])) :: slH so (encG q.out) 77).map (·.1)) ((bM, Mc, 95) :: (HB bH so q.out.length q.bx (.int .i32 (vn : Nat)) (.int .i32 (hn : Nat)) v7 q.x q.y q.fx q.fy q.io (.bool sm) ((q.bx).isSome) ([.float .f64 (F 0), .float .f64 (F wq)])) :: slH so (encG q.out) 77) w) : Calls Tryz.prog 116 [.pointer (some ⟨bH, 0, none⟩), .pointer (some ⟨bM, 0, none⟩), .agg #[.int .u8 26, .bool false]].toArray w (Out w (((bM, Mc, 95) :: (HB bH so q.out.length q.bx (.int .i32 (vn : Nat)) (.int .i32 (hn : Nat)) v7 q.x q.y q.fx q.fy q.io (.bool sm) ((q.bx).isSome) ([.float .f64 (F 0), .float .f64 (F wq)])) :: slH so (encG q.out) 77).map (·.1)) (fun z : List Value × Int × Sv => MOk z.1 lo gl ins fr [] ∧ slOk z.2.2 (straightSQ false q st).out.length 7 (encG (straightSQ false q st).out)) (fun z => .nilIface) (fun z => (bM, z.1, 95) :: (HB bH z.2.2 (straightSQ false q st).out.length ((straightSQ false q st).bx) (.int .i32 (vn : Nat)) (.int .i32 (hn : Nat)) v7 ((straightSQ false q st).x) ((straightSQ false q st).y) ((straightSQ false q st).fx) ((straightSQ false q st).fy) ((straightSQ false q st).io) (.bool sm) (((straightSQ false q st).bx).isSome) ([.float .f64 (F 0), .float .f64 (F z.2.1)])) :: slH z.2.2 (encG (straightSQ false q st).out) 77)) := by
 have hml := hm.len
 have hms := hm.stl
 refine enter (n := 285) Tryz.func116 rfl rfl rfl hw ?_
 refine cR ?_
 refine l_gives rfl rfl (g_box (vs := [_, _]) rfl rfl) rfl ?_
 intro b5 hb5
 refine lA rfl ?_
 refine nR ?_
 refine lA rfl ?_
 refine nQ ?_
 refine c_seq ?_
 refine cR ?_
 refine lV (y_fieldAddr fo_117_1 rfl) ?_
 refine lV (y_load1 ld_4 rfl m0 rfl) ?_
 refine lV (y_not rfl) ?_
 refine nQ ?_
 refine c_true rfl rfl ?_
 refine cR ?_
 refine lV (y_fieldAddr fo_117_0 rfl) ?_
 refine lV (y_load1 ld_5 rfl m0 rfl) ?_
 refine nQ ?_
 refine c_block ?_
 refine cR ?_
 refine lB rfl rfl rfl rfl ?_
 refine lA rfl ?_
 refine nQ ?_
 refine c_false rfl rfl ?_
 refine cR ?_
 refine lB rfl rfl rfl rfl ?_
 refine lA rfl ?_
 refine nQ ?_
 refine c_false rfl rfl ?_
 refine cR ?_
 refine lB rfl rfl rfl rfl ?_
 refine lA rfl ?_
 refine nQ ?_
 refine c_false rfl rfl ?_
 refine cR ?_
 refine lB rfl rfl rfl rfl ?_
 refine lA rfl ?_
 refine nQ ?_
 refine c_false rfl rfl ?_
 refine cR ?_
 refine lB rfl rfl rfl rfl ?_
 refine lA rfl ?_
 refine nQ ?_
 refine c_false rfl rfl ?_
 refine cR ?_
 refine lB rfl rfl rfl rfl ?_
 refine lA rfl ?_
 refine nQ ?_
 refine c_false rfl rfl ?_
 refine cR ?_
 refine lB rfl rfl rfl rfl ?_
 refine lA rfl ?_
 refine nQ ?_
 refine c_false rfl rfl ?_
 refine c_seq ?_
 refine cR ?_
 refine lB rfl rfl rfl rfl ?_
 refine lA rfl ?_
 refine nQ ?_
 refine c_false rfl rfl ?_
 refine c_region ?_
 refine lB rfl rfl rfl rfl ?_
 refine lA rfl ?_
 refine nQ ?_
 refine c_false rfl rfl ?_
 refine c_seq ?_
 refine cR ?_
 refine lB rfl rfl rfl rfl ?_
 refine lA rfl ?_
 refine nQ ?_
 refine c_false rfl rfl ?_
 refine c_region ?_
 refine lB rfl rfl rfl rfl ?_
 refine lA rfl ?_
 refine nQ ?_
 refine c_false rfl rfl ?_
 refine c_seq ?_
 refine cR ?_
 refine lB rfl rfl rfl rfl ?_
 refine lA rfl ?_
 refine nQ ?_
 refine c_false rfl rfl ?_
 refine c_region ?_
 refine lB rfl rfl rfl rfl ?_
 refine lA rfl ?_
 refine nQ ?_
 refine c_false rfl rfl ?_
 refine cR ?_
 refine lB rfl rfl rfl rfl ?_
 refine lA rfl ?_
 refine nQ ?_
 refine c_false rfl rfl ?_
 refine cR ?_
 refine lB rfl rfl rfl rfl ?_
 refine lA rfl ?_
 refine nQ ?_
 refine c_false rfl rfl ?_
 refine cR ?_
 refine lB rfl rfl rfl rfl ?_
 refine lA rfl ?_
 refine nQ ?_
 refine c_false rfl rfl ?_
 refine cR ?_
 refine lB rfl rfl rfl rfl ?_
 refine lA rfl ?_
 refine nQ ?_
 refine c_false rfl rfl ?_
 refine cR ?_
 refine lB rfl rfl rfl rfl ?_
 refine lA rfl ?_
 refine nQ ?_
 refine c_false rfl rfl ?_
 refine cR ?_
 refine lB rfl rfl rfl rfl ?_
 refine lA rfl ?_
 refine nQ ?_
 refine c_false rfl rfl ?_
 refine cR ?_
 refine lB rfl rfl rfl rfl ?_
 refine lA rfl ?_
 refine nQ ?_
 refine c_true rfl rfl ?_
 refine c_region ?_
 refine lM rfl ?_
 refine lN rfl ?_
 refine lV (y_fieldAddr fo_99_0 rfl) ?_
 refine lM rfl ?_
 refine l_call ok_133 rfl rfl (out_tail (A := [_, _]) (H1 := (HB bH so q.out.length q.bx (.int .i32 (vn : Nat)) (.int .i32 (hn : Nat)) v7 q.x q.y q.fx q.fy q.io (.bool sm) ((q.bx).isSome) ([.float .f64 (F 0), .float .f64 (F wq)])) :: slH so (encG q.out) 77) (fun w9 ha_ hb_ => f133_any w9 bH bM M q so (.int .i32 (vn : Nat)) (.int .i32 (hn : Nat)) v7 (.bool sm) [.float .f64 (F 0), .float .f64 (F wq)] st (by omega) hq hB hM hok hlen h4n h4m (RdM_own (ha_.sub (.skip .refl)) hm) hb_)) ?_
 intro so2 hok2
 refine l_nil ?_
 refine q_block ?_
 refine qR ?_
 refine lM rfl ?_
 refine lN rfl ?_
 refine lV (y_fieldAddr fo_95_4 rfl) ?_
 refine l_call ok_141 rfl rfl (out_one [_] (b := (bM, Mc, 95)) (fun w9 ha_ hb_ => f141_any w9 bM Mc _ _ _ _ _ hm hb_)) ?_
 intro _ _
 have hmC := hm.clear
 refine nR ?_
 refine lM rfl ?_
 refine lA rfl ?_
 refine nQ ?_
 refine c_ret ?_
 exact body_ret (rs := [.tmp 6]) rfl (vs := [.nilIface]) ⟨rfl, trivial⟩ (out_end ((Mc.set 527 (.int .i32 0)), wq, so2) ⟨hmC, hok2⟩ rfl (.skip .refl)) _ (.inr rfl)
set_option maxHeartbeats 8000000 in
theorem ap_27 (w : World) (bM bH M : Nat) (Mc : List Value) (lo gl : Value) (ins : Value) (fr : List Value) (vn hn : Nat) (v7 : Value) (sm : Bool) (st : List Int) (h4n : 4 ≤ st.length) (h4m : st.length % 4 < 2) (hvn : vn ≤ 1000000) (hhn : hn ≤ 1000000) (wq : Int) (q : QSt) (so : Sv) (hst : st.length ≤ 48) (hq : ∀ q ∈ st, Opd q) (hm : MOk Mc lo gl ins fr st) (hM : M + 120 * 2147483648 < 2 ^ 53) (hB : q.Bd M) (hok : slOk so q.out.length 7 (encG q.out)) (hlen : q.out.length ≤ 70000) (hw : Hp w (((bM, Mc, 95) :: (HB bH so q.out.length q.bx (.int .i32 (vn : Nat)) (.int .i32 (hn : Nat)) v7 q.x q.y q.fx q.fy q.io (.bool sm) ((q.bx).isSome) ([.float .f64 (F 0), .float .f64 (F wq)])) :: slH so (encG q.out) 77).map (·.1)) ((bM, Mc, 95) :: (HB bH so q.out.length q.bx (.int .i32 (vn : Nat)) (.int .i32 (hn : Nat)) v7 q.x q.y q.fx q.fy q.io (.bool sm) ((q.bx).isSome) ([.float .f64 (F 0), .float .f64 (F wq)])) :: slH so (encG q.out) 77) w) : Calls Tryz.prog 116 [.pointer (some ⟨bH, 0, none⟩), .pointer (some ⟨bM, 0, none⟩), .agg #[.int .u8 27, .bool false]].toArray w (Out w (((bM, Mc, 95) :: (HB bH so q.out.length q.bx (.int .i32 (vn : Nat)) (.int .i32 (hn : Nat)) v7 q.x q.y q.fx q.fy q.io (.bool sm) ((q.bx).isSome) ([.float .f64 (F 0), .float .f64 (F wq)])) :: slH so (encG q.out) 77).map (·.1)) (fun z : List Value × Int × Sv => MOk z.1 lo gl ins fr [] ∧ slOk z.2.2 (straightSQ true q st).out.length 7 (encG (straightSQ true q st).out)) (fun z => .nilIface) (fun z => (bM, z.1, 95) :: (HB bH z.2.2 (straightSQ true q st).out.length ((straightSQ true q st).bx) (.int .i32 (vn : Nat)) (.int .i32 (hn : Nat)) v7 ((straightSQ true q st).x) ((straightSQ true q st).y) ((straightSQ true q st).fx) ((straightSQ true q st).fy) ((straightSQ true q st).io) (.bool sm) (((straightSQ true q st).bx).isSome) ([.float .f64 (F 0), .float .f64 (F z.2.1)])) :: slH z.2.2 (encG (straightSQ true q st).out) 77)) := by
 have hml := hm.len
 have hms := hm.stl
 refine enter (n := 285) Tryz.func116 rfl rfl rfl hw ?_
 refine cR ?_
 refine l_gives rfl rfl (g_box (vs := [_, _]) rfl rfl) rfl ?_
 intro b5 hb5
 refine lA rfl ?_
 refine nR ?_
 refine lA rfl ?_
 refine nQ ?_
 refine c_seq ?_
 refine cR ?_
 refine lV (y_fieldAddr fo_117_1 rfl) ?_
 refine lV (y_load1 ld_4 rfl m0 rfl) ?_
 refine lV (y_not rfl) ?_
 refine nQ ?_
 refine c_true rfl rfl ?_
 refine cR ?_
 refine lV (y_fieldAddr fo_117_0 rfl) ?_
 refine lV (y_load1 ld_5 rfl m0 rfl) ?_
 refine nQ ?_
 refine c_block ?_
 refine cR ?_
 refine lB rfl rfl rfl rfl ?_
 refine lA rfl ?_
 refine nQ ?_
 refine c_false rfl rfl ?_
 refine cR ?_
 refine lB rfl rfl rfl rfl ?_
 refine lA rfl ?_
 refine nQ ?_
 refine c_false rfl rfl ?_
 refine cR ?_
 refine lB rfl rfl rfl rfl ?_
 refine lA rfl ?_
 refine nQ ?_
 refine c_false rfl rfl ?_
 refine cR ?_
 refine lB rfl rfl rfl rfl ?_
 refine lA rfl ?_
 refine nQ ?_
 refine c_false rfl rfl ?_
 refine cR ?_
 refine lB rfl rfl rfl rfl ?_
 refine lA rfl ?_
 refine nQ ?_
 refine c_false rfl rfl ?_
 refine cR ?_
 refine lB rfl rfl rfl rfl ?_
 refine lA rfl ?_
 refine nQ ?_
 refine c_false rfl rfl ?_
 refine cR ?_
 refine lB rfl rfl rfl rfl ?_
 refine lA rfl ?_
 refine nQ ?_
 refine c_false rfl rfl ?_
 refine c_seq ?_
 refine cR ?_
 refine lB rfl rfl rfl rfl ?_
 refine lA rfl ?_
 refine nQ ?_
 refine c_false rfl rfl ?_
 refine c_region ?_
 refine lB rfl rfl rfl rfl ?_
 refine lA rfl ?_
 refine nQ ?_
 refine c_false rfl rfl ?_
 refine c_seq ?_
 refine cR ?_
 refine lB rfl rfl rfl rfl ?_
 refine lA rfl ?_
 refine nQ ?_
 refine c_false rfl rfl ?_
 refine c_region ?_
 refine lB rfl rfl rfl rfl ?_
 refine lA rfl ?_
 refine nQ ?_
 refine c_false rfl rfl ?_
 refine c_seq ?_
 refine cR ?_
 refine lB rfl rfl rfl rfl ?_
 refine lA rfl ?_
 refine nQ ?_
 refine c_false rfl rfl ?_
 refine c_region ?_
 refine lB rfl rfl rfl rfl ?_
 refine lA rfl ?_
 refine nQ ?_
 refine c_false rfl rfl ?_
 refine cR ?_
 refine lB rfl rfl rfl rfl ?_
 refine lA rfl ?_
 refine nQ ?_
 refine c_false rfl rfl ?_
 refine cR ?_
 refine lB rfl rfl rfl rfl ?_
 refine lA rfl ?_
 refine nQ ?_
 refine c_false rfl rfl ?_
 refine cR ?_
 refine lB rfl rfl rfl rfl ?_
 refine lA rfl ?_
 refine nQ ?_
 refine c_false rfl rfl ?_
 refine cR ?_
 refine lB rfl rfl rfl rfl ?_
 refine lA rfl ?_
 refine nQ ?_
 refine c_false rfl rfl ?_
 refine cR ?_
 refine lB rfl rfl rfl rfl ?_
 refine lA rfl ?_
 refine nQ ?_
 refine c_false rfl rfl ?_
 refine cR ?_
 refine lB rfl rfl rfl rfl ?_
 refine lA rfl ?_
 refine nQ ?_
 refine c_false rfl rfl ?_
 refine cR ?_
 refine lB rfl rfl rfl rfl ?_
 refine lA rfl ?_
 refine nQ ?_
 refine c_false rfl rfl ?_
 refine cR ?_
 refine lB rfl rfl rfl rfl ?_
 refine lA rfl ?_
 refine nQ ?_
 refine c_true rfl rfl ?_
 refine c_region ?_
 refine lM rfl ?_
 refine lN rfl ?_
 refine lV (y_fieldAddr fo_99_0 rfl) ?_
 refine lM rfl ?_
 refine l_call ok_134 rfl rfl (out_tail (A := [_, _]) (H1 := (HB bH so q.out.length q.bx (.int .i32 (vn : Nat)) (.int .i32 (hn : Nat)) v7 q.x q.y q.fx q.fy q.io (.bool sm) ((q.bx).isSome) ([.float .f64 (F 0), .float .f64 (F wq)])) :: slH so (encG q.out) 77) (fun w9 ha_ hb_ => f134_any w9 bH bM M q so (.int .i32 (vn : Nat)) (.int .i32 (hn : Nat)) v7 (.bool sm) [.float .f64 (F 0), .float .f64 (F wq)] st (by omega) hq hB hM hok hlen h4n h4m (RdM_own (ha_.sub (.skip .refl)) hm) hb_)) ?_
 intro so2 hok2
 refine l_nil ?_
 refine q_block ?_
 refine qR ?_
 refine lM rfl ?_
 refine lN rfl ?_
 refine lV (y_fieldAddr fo_95_4 rfl) ?_
 refine l_call ok_141 rfl rfl (out_one [_] (b := (bM, Mc, 95)) (fun w9 ha_ hb_ => f141_any w9 bM Mc _ _ _ _ _ hm hb_)) ?_
 intro _ _
 have hmC := hm.clear
 refine nR ?_
 refine lM rfl ?_
 refine lA rfl ?_
 refine nQ ?_
 refine c_ret ?_
 exact body_ret (rs := [.tmp 6]) rfl (vs := [.nilIface]) ⟨rfl, trivial⟩ (out_end ((Mc.set 527 (.int .i32 0)), wq, so2) ⟨hmC, hok2⟩ rfl (.skip .refl)) _ (.inr rfl)
set_option maxHeartbeats 8000000 in
theorem ap_30 (w : World) (bM bH M : Nat) (Mc : List Value) (lo gl : Value) (ins : Value) (fr : List Value) (vn hn : Nat) (v7 : Value) (sm : Bool) (st : List Int) (h4n : 4 ≤ st.length) (h4m : st.length % 4 < 2) (hvn : vn ≤ 1000000) (hhn : hn ≤ 1000000) (wq : Int) (q : QSt) (so : Sv) (hst : st.length ≤ 48) (hq : ∀ q ∈ st, Opd q) (hm : MOk Mc lo gl ins fr st) (hM : M + 120 * 2147483648 < 2 ^ 53) (hB : q.Bd M) (hok : slOk so q.out.length 7 (encG q.out)) (hlen : q.out.length ≤ 70000) (hw : Hp w (((bM, Mc, 95) :: (HB bH so q.out.length q.bx (.int .i32 (vn : Nat)) (.int .i32 (hn : Nat)) v7 q.x q.y q.fx q.fy q.io (.bool sm) ((q.bx).isSome) ([.float .f64 (F 0), .float .f64 (F wq)])) :: slH so (encG q.out) 77).map (·.1)) ((bM, Mc, 95) :: (HB bH so q.out.length q.bx (.int .i32 (vn : Nat)) (.int .i32 (hn : Nat)) v7 q.x q.y q.fx q.fy q.io (.bool sm) ((q.bx).isSome) ([.float .f64 (F 0), .float .f64 (F wq)])) :: slH so (encG q.out) 77) w) : Calls Tryz.prog 116 [.pointer (some ⟨bH, 0, none⟩), .pointer (some ⟨bM, 0, none⟩), .agg #[.int .u8 30, .bool false]].toArray w (Out w (((bM, Mc, 95) :: (HB bH so q.out.length q.bx (.int .i32 (vn : Nat)) (.int .i32 (hn : Nat)) v7 q.x q.y q.fx q.fy q.io (.bool sm) ((q.bx).isSome) ([.float .f64 (F 0), .float .f64 (F wq)])) :: slH so (encG q.out) 77).map (·.1)) (fun z : List Value × Int × Sv => MOk z.1 lo gl ins fr [] ∧ slOk z.2.2 (turningQ false q st).out.length 7 (encG (turningQ false q st).out)) (fun z => .nilIface) (fun z => (bM, z.1, 95) :: (HB bH z.2.2 (turningQ false q st).out.length ((turningQ false q st).bx) (.int .i32 (vn : Nat)) (.int .i32 (hn : Nat)) v7 ((turningQ false q st).x) ((turningQ false q st).y) ((turningQ false q st).fx) ((turningQ false q st).fy) ((turningQ false q st).io) (.bool sm) (((turningQ false q st).bx).isSome) ([.float .f64 (F 0), .float .f64 (F z.2.1)])) :: slH z.2.2 (encG (turningQ false q st).out) 77)) := by
 have hml := hm.len
 have hms := hm.stl
 refine enter (n := 285) Tryz.func116 rfl rfl rfl hw ?_
 refine cR ?_
 refine l_gives rfl rfl (g_box (vs := [_, _]) rfl rfl) rfl ?_
 intro b5 hb5
 refine lA rfl ?_
 refine nR ?_
 refine lA rfl ?_
 refine nQ ?_
 refine c_seq ?_
 refine cR ?_
 refine lV (y_fieldAddr fo_117_1 rfl) ?_
 refine lV (y_load1 ld_4 rfl m0 rfl) ?_
 refine lV (y_not rfl) ?_
 refine nQ ?_
 refine c_true rfl rfl ?_
 refine cR ?_
 refine lV (y_fieldAddr fo_117_0 rfl) ?_
 refine lV (y_load1 ld_5 rfl m0 rfl) ?_
 refine nQ ?_
 refine c_block ?_
 refine cR ?_
 refine lB rfl rfl rfl rfl ?_
 refine lA rfl ?_
 refine nQ ?_
 refine c_false rfl rfl ?_
 refine cR ?_
 refine lB rfl rfl rfl rfl ?_
 refine lA rfl ?_
 refine nQ ?_
 refine c_false rfl rfl ?_
 refine cR ?_
 refine lB rfl rfl rfl rfl ?_
 refine lA rfl ?_
 refine nQ ?_
 refine c_false rfl rfl ?_
 refine cR ?_
 refine lB rfl rfl rfl rfl ?_
 refine lA rfl ?_
 refine nQ ?_
 refine c_false rfl rfl ?_
 refine cR ?_
 refine lB rfl rfl rfl rfl ?_
 refine lA rfl ?_
 refine nQ ?_
 refine c_false rfl rfl ?_
 refine cR ?_
 refine lB rfl rfl rfl rfl ?_
 refine lA rfl ?_
 refine nQ ?_
 refine c_false rfl rfl ?_
 refine cR ?_
 refine lB rfl rfl rfl rfl ?_
 refine lA rfl ?_
 refine nQ ?_
 refine c_false rfl rfl ?_
 refine c_seq ?_
 refine cR ?_
 refine lB rfl rfl rfl rfl ?_
 refine lA rfl ?_
 refine nQ ?_
 refine c_false rfl rfl ?_
 refine c_region ?_
 refine lB rfl rfl rfl rfl ?_
 refine lA rfl ?_
 refine nQ ?_
 refine c_false rfl rfl ?_
 refine c_seq ?_
 refine cR ?_
 refine lB rfl rfl rfl rfl ?_
 refine lA rfl ?_
 refine nQ ?_
 refine c_false rfl rfl ?_
 refine c_region ?_
 refine lB rfl rfl rfl rfl ?_
 refine lA rfl ?_
 refine nQ ?_
 refine c_false rfl rfl ?_
 refine c_seq ?_
 refine cR ?_
 refine lB rfl rfl rfl rfl ?_
 refine lA rfl ?_
 refine nQ ?_
 refine c_false rfl rfl ?_
 refine c_region ?_
 refine lB rfl rfl rfl rfl ?_
 refine lA rfl ?_
 refine nQ ?_
 refine c_false rfl rfl ?_
 refine cR ?_
 refine lB rfl rfl rfl rfl ?_
 refine lA rfl ?_
 refine nQ ?_
 refine c_false rfl rfl ?_
 refine cR ?_
 refine lB rfl rfl rfl rfl ?_
 refine lA rfl ?_
 refine nQ ?_
 refine c_false rfl rfl ?_
 refine cR ?_
 refine lB rfl rfl rfl rfl ?_
 refine lA rfl ?_
 refine nQ ?_
 refine c_false rfl rfl ?_
 refine cR ?_
 refine lB rfl rfl rfl rfl ?_
 refine lA rfl ?_
 refine nQ ?_
 refine c_false rfl rfl ?_
 refine cR ?_
 refine lB rfl rfl rfl rfl ?_
 refine lA rfl ?_
 refine nQ ?_
 refine c_false rfl rfl ?_
 refine cR ?_
 refine lB rfl rfl rfl rfl ?_
 refine lA rfl ?_
 refine nQ ?_
 refine c_false rfl rfl ?_
 refine cR ?_
 refine lB rfl rfl rfl rfl ?_
 refine lA rfl ?_
 refine nQ ?_
 refine c_false rfl rfl ?_
 refine cR ?_
 refine lB rfl rfl rfl rfl ?_
 refine lA rfl ?_
 refine nQ ?_
 refine c_false rfl rfl ?_
 refine cR ?_
 refine lB rfl rfl rfl rfl ?_
 refine lA rfl ?_
 refine nQ ?_
 refine c_true rfl rfl ?_
 refine c_region ?_
 refine lM rfl ?_
 refine lN rfl ?_
 refine lV (y_fieldAddr fo_99_0 rfl) ?_
 refine lM rfl ?_
 refine l_call ok_135 rfl rfl (out_tail (A := [_, _]) (H1 := (HB bH so q.out.length q.bx (.int .i32 (vn : Nat)) (.int .i32 (hn : Nat)) v7 q.x q.y q.fx q.fy q.io (.bool sm) ((q.bx).isSome) ([.float .f64 (F 0), .float .f64 (F wq)])) :: slH so (encG q.out) 77) (fun w9 ha_ hb_ => f135_any w9 bH bM M q so (.int .i32 (vn : Nat)) (.int .i32 (hn : Nat)) v7 (.bool sm) [.float .f64 (F 0), .float .f64 (F wq)] st (by omega) hq hB hM hok hlen h4n h4m (RdM_own (ha_.sub (.skip .refl)) hm) hb_)) ?_
 intro so2 hok2
 refine l_nil ?_
 refine q_block ?_
 refine qR ?_
 refine lM rfl ?_
 refine lN rfl ?_
 refine lV (y_fieldAddr fo_95_4 rfl) ?_
 refine l_call ok_141 rfl rfl (out_one [_] (b := (bM, Mc, 95)) (fun w9 ha_ hb_ => f141_any w9 bM Mc _ _ _ _ _ hm hb_)) ?_
 intro _ _
 have hmC := hm.clear
 refine nR ?_
 refine lM rfl ?_
 refine lA rfl ?_
 refine nQ ?_
 refine c_ret ?_
 exact body_ret (rs := [.tmp 6]) rfl (vs := [.nilIface]) ⟨rfl, trivial⟩ (out_end ((Mc.set 527 (.int .i32 0)), wq, so2) ⟨hmC, hok2⟩ rfl (.skip .refl)) _ (.inr rfl)
set_option maxHeartbeats 8000000 in
theorem ap_31 (w : World) (bM bH M : Nat) (Mc : List Value) (lo gl : Value) (ins : Value) (fr : List Value) (vn hn : Nat) (v7 : Value) (sm : Bool) (st : List Int) (h4n : 4 ≤ st.length) (h4m : st.length % 4 < 2) (hvn : vn ≤ 1000000) (hhn : hn ≤ 1000000) (wq : Int) (q : QSt) (so : Sv) (hst : st.length ≤ 48) (hq : ∀ q ∈ st, Opd q) (hm : MOk Mc lo gl ins fr st) (hM : M + 120 * 2147483648 < 2 ^ 53) (hB : q.Bd M) (hok : slOk so q.out.length 7 (encG q.out)) (hlen : q.out.length ≤ 70000) (hw : Hp w (((bM, Mc, 95) :: (HB bH so q.out.length q.bx (.int .i32 (vn : Nat)) (.int .i32 (hn : Nat)) v7 q.x q.y q.fx q.fy q.io (.bool sm) ((q.bx).isSome) ([.float .f64 (F 0), .float .f64 (F wq)])) :: slH so (encG q.out) 77).map (·.1)) ((bM, Mc, 95) :: (HB bH so q.out.length q.bx (.int .i32 (vn : Nat)) (.int .i32 (hn : Nat)) v7 q.x q.y q.fx q.fy q.io (.bool sm) ((q.bx).isSome) ([.float .f64 (F 0), .float .f64 (F wq)])) :: slH so (encG q.out) 77) w) : Calls Tryz.prog 116 [.pointer (some ⟨bH, 0, none⟩), .pointer (some ⟨bM, 0, none⟩), .agg #[.int .u8 31, .bool false]].toArray w (Out w (((bM, Mc, 95) :: (HB bH so q.out.length q.bx (.int .i32 (vn : Nat)) (.int .i32 (hn : Nat)) v7 q.x q.y q.fx q.fy q.io (.bool sm) ((q.bx).isSome) ([.float .f64 (F 0), .float .f64 (F wq)])) :: slH so (encG q.out) 77).map (·.1)) (fun z : List Value × Int × Sv => MOk z.1 lo gl ins fr [] ∧ slOk z.2.2 (turningQ true q st).out.length 7 (encG (turningQ true q st).out)) (fun z => .nilIface) (fun z => (bM, z.1, 95) :: (HB bH z.2.2 (turningQ true q st).out.length ((turningQ true q st).bx) (.int .i32 (vn : Nat)) (.int .i32 (hn : Nat)) v7 ((turningQ true q st).x) ((turningQ true q st).y) ((turningQ true q st).fx) ((turningQ true q st).fy) ((turningQ true q st).io) (.bool sm) (((turningQ true q st).bx).isSome) ([.float .f64 (F 0), .float .f64 (F z.2.1)])) :: slH z.2.2 (encG (turningQ true q st).out) 77)) := by
 have hml := hm.len
 have hms := hm.stl
 refine enter (n := 285) Tryz.func116 rfl rfl rfl hw ?_
 refine cR ?_
 refine l_gives rfl rfl (g_box (vs := [_, _]) rfl rfl) rfl ?_
 intro b5 hb5
 refine lA rfl ?_
 refine nR ?_
 refine lA rfl ?_
 refine nQ ?_
 refine c_seq ?_
 refine cR ?_
 refine lV (y_fieldAddr fo_117_1 rfl) ?_
 refine lV (y_load1 ld_4 rfl m0 rfl) ?_
 refine lV (y_not rfl) ?_
 refine nQ ?_
 refine c_true rfl rfl ?_
 refine cR ?_
 refine lV (y_fieldAddr fo_117_0 rfl) ?_
 refine lV (y_load1 ld_5 rfl m0 rfl) ?_
 refine nQ ?_
 refine c_block ?_
 refine cR ?_
 refine lB rfl rfl rfl rfl ?_
 refine lA rfl ?_
 refine nQ ?_
 refine c_false rfl rfl ?_
 refine cR ?_
 refine lB rfl rfl rfl rfl ?_
 refine lA rfl ?_
 refine nQ ?_
 refine c_false rfl rfl ?_
 refine cR ?_
 refine lB rfl rfl rfl rfl ?_
 refine lA rfl ?_
 refine nQ ?_
 refine c_false rfl rfl ?_
 refine cR ?_
 refine lB rfl rfl rfl rfl ?_
 refine lA rfl ?_
 refine nQ ?_
 refine c_false rfl rfl ?_
 refine cR ?_
 refine lB rfl rfl rfl rfl ?_
 refine lA rfl ?_
 refine nQ ?_
 refine c_false rfl rfl ?_
 refine cR ?_
 refine lB rfl rfl rfl rfl ?_
 refine lA rfl ?_
 refine nQ ?_
 refine c_false rfl rfl ?_
 refine cR ?_
 refine lB rfl rfl rfl rfl ?_
 refine lA rfl ?_
 refine nQ ?_
 refine c_false rfl rfl ?_
 refine c_seq ?_
 refine cR ?_
 refine lB rfl rfl rfl rfl ?_
 refine lA rfl ?_
 refine nQ ?_
 refine c_false rfl rfl ?_
 refine c_region ?_
 refine lB rfl rfl rfl rfl ?_
 refine lA rfl ?_
 refine nQ ?_
 refine c_false rfl rfl ?_
 refine c_seq ?_
 refine cR ?_
 refine lB rfl rfl rfl rfl ?_
 refine lA rfl ?_
 refine nQ ?_
 refine c_false rfl rfl ?_
 refine c_region ?_
 refine lB rfl rfl rfl rfl ?_
 refine lA rfl ?_
 refine nQ ?_
 refine c_false rfl rfl ?_
 refine c_seq ?_
 refine cR ?_
 refine lB rfl rfl rfl rfl ?_
 refine lA rfl ?_
 refine nQ ?_
 refine c_false rfl rfl ?_
 refine c_region ?_
 refine lB rfl rfl rfl rfl ?_
 refine lA rfl ?_
 refine nQ ?_
 refine c_false rfl rfl ?_
 refine cR ?_
 refine lB rfl rfl rfl rfl ?_
 refine lA rfl ?_
 refine nQ ?_
 refine c_false rfl rfl ?_
 refine cR ?_
 refine lB rfl rfl rfl rfl ?_
 refine lA rfl ?_
 refine nQ ?_
 refine c_false rfl rfl ?_
 refine cR ?_
 refine lB rfl rfl rfl rfl ?_
 refine lA rfl ?_
 refine nQ ?_
 refine c_false rfl rfl ?_
 refine cR ?_
 refine lB rfl rfl rfl rfl ?_
 refine lA rfl ?_
 refine nQ ?_
 refine c_false rfl rfl ?_
 refine cR ?_
 refine lB rfl rfl rfl rfl ?_
 refine lA rfl ?_
 refine nQ ?_
 refine c_false rfl rfl ?_
 refine cR ?_
 refine lB rfl rfl rfl rfl ?_
 refine lA rfl ?_
 refine nQ ?_
 refine c_false rfl rfl ?_
 refine cR ?_
 refine lB rfl rfl rfl rfl ?_
 refine lA rfl ?_
 refine nQ ?_
 refine c_false rfl rfl ?_
 refine cR ?_
 refine lB rfl rfl rfl rfl ?_
 refine lA rfl ?_
 refine nQ ?_
 refine c_false rfl rfl ?_
 refine cR ?_
 refine lB rfl rfl rfl rfl ?_
 refine lA rfl ?_
 refine nQ ?_
 refine c_false rfl rfl ?_
 refine cR ?_
 refine lB rfl rfl rfl rfl ?_
 refine lA rfl ?_
 refine nQ ?_
 refine c_true rfl rfl ?_
 refine c_region ?_
 refine lM rfl ?_
 refine lN rfl ?_
 refine lV (y_fieldAddr fo_99_0 rfl) ?_
 refine lM rfl ?_
 refine l_call ok_136 rfl rfl (out_tail (A := [_, _]) (H1 := (HB bH so q.out.length q.bx (.int .i32 (vn : Nat)) (.int .i32 (hn : Nat)) v7 q.x q.y q.fx q.fy q.io (.bool sm) ((q.bx).isSome) ([.float .f64 (F 0), .float .f64 (F wq)])) :: slH so (encG q.out) 77) (fun w9 ha_ hb_ => f136_any w9 bH bM M q so (.int .i32 (vn : Nat)) (.int .i32 (hn : Nat)) v7 (.bool sm) [.float .f64 (F 0), .float .f64 (F wq)] st (by omega) hq hB hM hok hlen h4n h4m (RdM_own (ha_.sub (.skip .refl)) hm) hb_)) ?_
 intro so2 hok2
 refine l_nil ?_
 refine q_block ?_
 refine qR ?_
 refine lM rfl ?_
 refine lN rfl ?_
 refine lV (y_fieldAddr fo_95_4 rfl) ?_
 refine l_call ok_141 rfl rfl (out_one [_] (b := (bM, Mc, 95)) (fun w9 ha_ hb_ => f141_any w9 bM Mc _ _ _ _ _ hm hb_)) ?_
 intro _ _
 have hmC := hm.clear
 refine nR ?_
 refine lM rfl ?_
 refine lA rfl ?_
 refine nQ ?_
 refine c_ret ?_
 exact body_ret (rs := [.tmp 6]) rfl (vs := [.nilIface]) ⟨rfl, trivial⟩ (out_end ((Mc.set 527 (.int .i32 0)), wq, so2) ⟨hmC, hok2⟩ rfl (.skip .refl)) _ (.inr rfl)
set_option maxHeartbeats 8000000 in
theorem ap_e34 (w : World) (bM bH M : Nat) (Mc : List Value) (lo gl : Value) (ins : Value) (fr : List Value) (vn hn : Nat) (v7 : Value) (sm : Bool) (a0 a1 a2 a3 a4 a5 a6 : Int) (hvn : vn ≤ 1000000) (hhn : hn ≤ 1000000) (wq : Int) (q : QSt) (so : Sv) (hst : [a0, a1, a2, a3, a4, a5, a6].length ≤ 48) (hq : ∀ q ∈ [a0, a1, a2, a3, a4, a5, a6], Opd q) (hm : MOk Mc lo gl ins fr [a0, a1, a2, a3, a4, a5, a6]) (hM : M + 120 * 2147483648 < 2 ^ 53) (hB : q.Bd M) (hok : slOk so q.out.length 7 (encG q.out)) (hlen : q.out.length ≤ 70000) (hw : Hp w (((bM, Mc, 95) :: (HB bH so q.out.length q.bx (.int .i32 (vn : Nat)) (.int .i32 (hn : Nat)) v7 q.x q.y q.fx q.fy q.io (.bool sm) ((q.bx).isSome) ([.float .f64 (F 0), .float .f64 (F wq)])) :: slH so (encG q.out) 77).map (·.1)) ((bM, Mc, 95) :: (HB bH so q.out.length q.bx (.int .i32 (vn : Nat)) (.int .i32 (hn : Nat)) v7 q.x q.y q.fx q.fy q.io (.bool sm) ((q.bx).isSome) ([.float .f64 (F 0), .float .f64 (F wq)])) :: slH so (encG q.out) 77) w) : Calls Tryz.prog 116 [.pointer (some ⟨bH, 0, none⟩), .pointer (some ⟨bM, 0, none⟩), .agg #[.int .u8 34, .bool true]].toArray w (Out w (((bM, Mc, 95) :: (HB bH so q.out.length q.bx (.int .i32 (vn : Nat)) (.int .i32 (hn : Nat)) v7 q.x q.y q.fx q.fy q.io (.bool sm) ((q.bx).isSome) ([.float .f64 (F 0), .float .f64 (F wq)])) :: slH so (encG q.out) 77).map (·.1)) (fun z : List Value × Int × Sv => MOk z.1 lo gl ins fr [] ∧ slOk z.2.2 (curveQ (curveQ q a0 0 a1 a2 a3 0) a4 0 a5 (-a2) a6 0).out.length 7 (encG (curveQ (curveQ q a0 0 a1 a2 a3 0) a4 0 a5 (-a2) a6 0).out)) (fun z => .nilIface) (fun z => (bM, z.1, 95) :: (HB bH z.2.2 (curveQ (curveQ q a0 0 a1 a2 a3 0) a4 0 a5 (-a2) a6 0).out.length ((curveQ (curveQ q a0 0 a1 a2 a3 0) a4 0 a5 (-a2) a6 0).bx) (.int .i32 (vn : Nat)) (.int .i32 (hn : Nat)) v7 ((curveQ (curveQ q a0 0 a1 a2 a3 0) a4 0 a5 (-a2) a6 0).x) ((curveQ (curveQ q a0 0 a1 a2 a3 0) a4 0 a5 (-a2) a6 0).y) ((curveQ (curveQ q a0 0 a1 a2 a3 0) a4 0 a5 (-a2) a6 0).fx) ((curveQ (curveQ q a0 0 a1 a2 a3 0) a4 0 a5 (-a2) a6 0).fy) ((curveQ (curveQ q a0 0 a1 a2 a3 0) a4 0 a5 (-a2) a6 0).io) (.bool sm) (((curveQ (curveQ q a0 0 a1 a2 a3 0) a4 0 a5 (-a2) a6 0).bx).isSome) ([.float .f64 (F 0), .float .f64 (F z.2.1)])) :: slH z.2.2 (encG (curveQ (curveQ q a0 0 a1 a2 a3 0) a4 0 a5 (-a2) a6 0).out) 77)) := by
 have hml := hm.len
 have hms := hm.stl
 refine enter (n := 285) Tryz.func116 rfl rfl rfl hw ?_
 refine cR ?_
 refine l_gives rfl rfl (g_box (vs := [_, _]) rfl rfl) rfl ?_
 intro b5 hb5
 refine lA rfl ?_
 refine nR ?_
 refine lA rfl ?_
 refine nQ ?_
 refine c_seq ?_
 refine cR ?_
 refine lV (y_fieldAddr fo_117_1 rfl) ?_
 refine lV (y_load1 ld_4 rfl m0 rfl) ?_
 refine lV (y_not rfl) ?_
 refine nQ ?_
 refine c_false rfl rfl ?_
 refine cR ?_
 refine lV (y_fieldAddr fo_117_0 rfl) ?_
 refine lV (y_load1 ld_5 rfl m0 rfl) ?_
 refine nQ ?_
 refine c_block ?_
 refine cR ?_
 refine lB rfl rfl rfl rfl ?_
 refine lA rfl ?_
 refine nQ ?_
 refine c_true rfl rfl ?_
 refine c_region ?_
 refine lM rfl ?_
 refine lN rfl ?_
 refine lV (y_fieldAddr fo_99_0 rfl) ?_
 refine lM rfl ?_
 refine l_call ok_137 rfl rfl (out_tail (A := [_, _]) (H1 := (HB bH so q.out.length q.bx (.int .i32 (vn : Nat)) (.int .i32 (hn : Nat)) v7 q.x q.y q.fx q.fy q.io (.bool sm) ((q.bx).isSome) ([.float .f64 (F 0), .float .f64 (F wq)])) :: slH so (encG q.out) 77) (fun w9 ha_ hb_ => f137_any w9 bH bM M q so (.int .i32 (vn : Nat)) (.int .i32 (hn : Nat)) v7 (.bool sm) [.float .f64 (F 0), .float .f64 (F wq)] a0 a1 a2 a3 a4 a5 a6 hq hB hM hok hlen (RdM_own (ha_.sub (.skip .refl)) hm) hb_)) ?_
 intro so2 hok2
 refine lA rfl ?_
 refine l_nil ?_
 refine q_block ?_
 refine qR ?_
 refine lM rfl ?_
 refine lN rfl ?_
 refine lV (y_fieldAddr fo_95_4 rfl) ?_
 refine l_call ok_141 rfl rfl (out_one [_] (b := (bM, Mc, 95)) (fun w9 ha_ hb_ => f141_any w9 bM Mc _ _ _ _ _ hm hb_)) ?_
 intro _ _
 have hmC := hm.clear
 refine nR ?_
 refine lM rfl ?_
 refine lA rfl ?_
 refine nQ ?_
 refine c_ret ?_
 exact body_ret (rs := [.tmp 6]) rfl (vs := [.nilIface]) ⟨rfl, trivial⟩ (out_end ((Mc.set 527 (.int .i32 0)), wq, so2) ⟨hmC, hok2⟩ rfl (.skip .refl)) _ (.inr rfl)
set_option maxHeartbeats 8000000 in
theorem ap_e35 (w : World) (bM bH M : Nat) (Mc : List Value) (lo gl : Value) (ins : Value) (fr : List Value) (vn hn : Nat) (v7 : Value) (sm : Bool) (a0 a1 a2 a3 a4 a5 a6 a7 a8 a9 a10 a11 a12 : Int) (hvn : vn ≤ 1000000) (hhn : hn ≤ 1000000) (wq : Int) (q : QSt) (so : Sv) (hst : [a0, a1, a2, a3, a4, a5, a6, a7, a8, a9, a10, a11, a12].length ≤ 48) (hq : ∀ q ∈ [a0, a1, a2, a3, a4, a5, a6, a7, a8, a9, a10, a11, a12], Opd q) (hm : MOk Mc lo gl ins fr [a0, a1, a2, a3, a4, a5, a6, a7, a8, a9, a10, a11, a12]) (hM : M + 120 * 2147483648 < 2 ^ 53) (hB : q.Bd M) (hok : slOk so q.out.length 7 (encG q.out)) (hlen : q.out.length ≤ 70000) (hw : Hp w (((bM, Mc, 95) :: (HB bH so q.out.length q.bx (.int .i32 (vn : Nat)) (.int .i32 (hn : Nat)) v7 q.x q.y q.fx q.fy q.io (.bool sm) ((q.bx).isSome) ([.float .f64 (F 0), .float .f64 (F wq)])) :: slH so (encG q.out) 77).map (·.1)) ((bM, Mc, 95) :: (HB bH so q.out.length q.bx (.int .i32 (vn : Nat)) (.int .i32 (hn : Nat)) v7 q.x q.y q.fx q.fy q.io (.bool sm) ((q.bx).isSome) ([.float .f64 (F 0), .float .f64 (F wq)])) :: slH so (encG q.out) 77) w) : Calls Tryz.prog 116 [.pointer (some ⟨bH, 0, none⟩), .pointer (some ⟨bM, 0, none⟩), .agg #[.int .u8 35, .bool true]].toArray w (Out w (((bM, Mc, 95) :: (HB bH so q.out.length q.bx (.int .i32 (vn : Nat)) (.int .i32 (hn : Nat)) v7 q.x q.y q.fx q.fy q.io (.bool sm) ((q.bx).isSome) ([.float .f64 (F 0), .float .f64 (F wq)])) :: slH so (encG q.out) 77).map (·.1)) (fun z : List Value × Int × Sv => MOk z.1 lo gl ins fr [] ∧ slOk z.2.2 (curveQ (curveQ q a0 a1 a2 a3 a4 a5) a6 a7 a8 a9 a10 a11).out.length 7 (encG (curveQ (curveQ q a0 a1 a2 a3 a4 a5) a6 a7 a8 a9 a10 a11).out)) (fun z => .nilIface) (fun z => (bM, z.1, 95) :: (HB bH z.2.2 (curveQ (curveQ q a0 a1 a2 a3 a4 a5) a6 a7 a8 a9 a10 a11).out.length ((curveQ (curveQ q a0 a1 a2 a3 a4 a5) a6 a7 a8 a9 a10 a11).bx) (.int .i32 (vn : Nat)) (.int .i32 (hn : Nat)) v7 ((curveQ (curveQ q a0 a1 a2 a3 a4 a5) a6 a7 a8 a9 a10 a11).x) ((curveQ (curveQ q a0 a1 a2 a3 a4 a5) a6 a7 a8 a9 a10 a11).y) ((curveQ (curveQ q a0 a1 a2 a3 a4 a5) a6 a7 a8 a9 a10 a11).fx) ((curveQ (curveQ q a0 a1 a2 a3 a4 a5) a6 a7 a8 a9 a10 a11).fy) ((curveQ (curveQ q a0 a1 a2 a3 a4 a5) a6 a7 a8 a9 a10 a11).io) (.bool sm) (((curveQ (curveQ q a0 a1 a2 a3 a4 a5) a6 a7 a8 a9 a10 a11).bx).isSome) ([.float .f64 (F 0), .float .f64 (F z.2.1)])) :: slH z.2.2 (encG (curveQ (curveQ q a0 a1 a2 a3 a4 a5) a6 a7 a8 a9 a10 a11).out) 77)) := by
 have hml := hm.len
 have hms := hm.stl
 refine enter (n := 285) Tryz.func116 rfl rfl rfl hw ?_
 refine cR ?_
 refine l_gives rfl rfl (g_box (vs := [_, _]) rfl rfl) rfl ?_
 intro b5 hb5
 refine lA rfl ?_
 refine nR ?_
 refine lA rfl ?_
 refine nQ ?_
 refine c_seq ?_
 refine cR ?_
 refine lV (y_fieldAddr fo_117_1 rfl) ?_
 refine lV (y_load1 ld_4 rfl m0 rfl) ?_
 refine lV (y_not rfl) ?_
 refine nQ ?_
 refine c_false rfl rfl ?_
 refine cR ?_
 refine lV (y_fieldAddr fo_117_0 rfl) ?_
 refine lV (y_load1 ld_5 rfl m0 rfl) ?_
 refine nQ ?_
 refine c_block ?_
 refine cR ?_
 refine lB rfl rfl rfl rfl ?_
 refine lA rfl ?_
 refine nQ ?_
 refine c_false rfl rfl ?_
 refine cR ?_
 refine lB rfl rfl rfl rfl ?_
 refine lA rfl ?_
 refine nQ ?_
 refine c_true rfl rfl ?_
 refine c_region ?_
 refine lM rfl ?_
 refine lN rfl ?_
 refine lV (y_fieldAddr fo_99_0 rfl) ?_
 refine lM rfl ?_
 refine l_call ok_138 rfl rfl (out_tail (A := [_, _]) (H1 := (HB bH so q.out.length q.bx (.int .i32 (vn : Nat)) (.int .i32 (hn : Nat)) v7 q.x q.y q.fx q.fy q.io (.bool sm) ((q.bx).isSome) ([.float .f64 (F 0), .float .f64 (F wq)])) :: slH so (encG q.out) 77) (fun w9 ha_ hb_ => f138_any w9 bH bM M q so (.int .i32 (vn : Nat)) (.int .i32 (hn : Nat)) v7 (.bool sm) [.float .f64 (F 0), .float .f64 (F wq)] a0 a1 a2 a3 a4 a5 a6 a7 a8 a9 a10 a11 a12 hq hB hM hok hlen (RdM_own (ha_.sub (.skip .refl)) hm) hb_)) ?_
 intro so2 hok2
 refine lA rfl ?_
 refine l_nil ?_
 refine q_block ?_
 refine qR ?_
 refine lM rfl ?_
 refine lN rfl ?_
 refine lV (y_fieldAddr fo_95_4 rfl) ?_
 refine l_call ok_141 rfl rfl (out_one [_] (b := (bM, Mc, 95)) (fun w9 ha_ hb_ => f141_any w9 bM Mc _ _ _ _ _ hm hb_)) ?_
 intro _ _
 have hmC := hm.clear
 refine nR ?_
 refine lM rfl ?_
 refine lA rfl ?_
 refine nQ ?_
 refine c_ret ?_
 exact body_ret (rs := [.tmp 6]) rfl (vs := [.nilIface]) ⟨rfl, trivial⟩ (out_end ((Mc.set 527 (.int .i32 0)), wq, so2) ⟨hmC, hok2⟩ rfl (.skip .refl)) _ (.inr rfl)
set_option maxHeartbeats 8000000 in
theorem ap_e36 (w : World) (bM bH M : Nat) (Mc : List Value) (lo gl : Value) (ins : Value) (fr : List Value) (vn hn : Nat) (v7 : Value) (sm : Bool) (a0 a1 a2 a3 a4 a5 a6 a7 a8 : Int) (hvn : vn ≤ 1000000) (hhn : hn ≤ 1000000) (wq : Int) (q : QSt) (so : Sv) (hst : [a0, a1, a2, a3, a4, a5, a6, a7, a8].length ≤ 48) (hq : ∀ q ∈ [a0, a1, a2, a3, a4, a5, a6, a7, a8], Opd q) (hm : MOk Mc lo gl ins fr [a0, a1, a2, a3, a4, a5, a6, a7, a8]) (hM : M + 120 * 2147483648 < 2 ^ 53) (hB : q.Bd M) (hok : slOk so q.out.length 7 (encG q.out)) (hlen : q.out.length ≤ 70000) (hw : Hp w (((bM, Mc, 95) :: (HB bH so q.out.length q.bx (.int .i32 (vn : Nat)) (.int .i32 (hn : Nat)) v7 q.x q.y q.fx q.fy q.io (.bool sm) ((q.bx).isSome) ([.float .f64 (F 0), .float .f64 (F wq)])) :: slH so (encG q.out) 77).map (·.1)) ((bM, Mc, 95) :: (HB bH so q.out.length q.bx (.int .i32 (vn : Nat)) (.int .i32 (hn : Nat)) v7 q.x q.y q.fx q.fy q.io (.bool sm) ((q.bx).isSome) ([.float .f64 (F 0), .float .f64 (F wq)])) :: slH so (encG q.out) 77) w) : Calls Tryz.prog 116 [.pointer (some ⟨bH, 0, none⟩), .pointer (some ⟨bM, 0, none⟩), .agg #[.int .u8 36, .bool true]].toArray w (Out w (((bM, Mc, 95) :: (HB bH so q.out.length q.bx (.int .i32 (vn : Nat)) (.int .i32 (hn : Nat)) v7 q.x q.y q.fx q.fy q.io (.bool sm) ((q.bx).isSome) ([.float .f64 (F 0), .float .f64 (F wq)])) :: slH so (encG q.out) 77).map (·.1)) (fun z : List Value × Int × Sv => MOk z.1 lo gl ins fr [] ∧ slOk z.2.2 (curveQ (curveQ q a0 a1 a2 a3 a4 0) a5 0 a6 a7 a8 (-(a1 + a3 + a7))).out.length 7 (encG (curveQ (curveQ q a0 a1 a2 a3 a4 0) a5 0 a6 a7 a8 (-(a1 + a3 + a7))).out)) (fun z => .nilIface) (fun z => (bM, z.1, 95) :: (HB bH z.2.2 (curveQ (curveQ q a0 a1 a2 a3 a4 0) a5 0 a6 a7 a8 (-(a1 + a3 + a7))).out.length ((curveQ (curveQ q a0 a1 a2 a3 a4 0) a5 0 a6 a7 a8 (-(a1 + a3 + a7))).bx) (.int .i32 (vn : Nat)) (.int .i32 (hn : Nat)) v7 ((curveQ (curveQ q a0 a1 a2 a3 a4 0) a5 0 a6 a7 a8 (-(a1 + a3 + a7))).x) ((curveQ (curveQ q a0 a1 a2 a3 a4 0) a5 0 a6 a7 a8 (-(a1 + a3 + a7))).y) ((curveQ (curveQ q a0 a1 a2 a3 a4 0) a5 0 a6 a7 a8 (-(a1 + a3 + a7))).fx) ((curveQ (curveQ q a0 a1 a2 a3 a4 0) a5 0 a6 a7 a8 (-(a1 + a3 + a7))).fy) ((curveQ (curveQ q a0 a1 a2 a3 a4 0) a5 0 a6 a7 a8 (-(a1 + a3 + a7))).io) (.bool sm) (((curveQ (curveQ q a0 a1 a2 a3 a4 0) a5 0 a6 a7 a8 (-(a1 + a3 + a7))).bx).isSome) ([.float .f64 (F 0), .float .f64 (F z.2.1)])) :: slH z.2.2 (encG (curveQ (curveQ q a0 a1 a2 a3 a4 0) a5 0 a6 a7 a8 (-(a1 + a3 + a7))).out) 77)) := by
 have hml := hm.len
 have hms := hm.stl
 refine enter (n := 285) Tryz.func116 rfl rfl rfl hw ?_
 refine cR ?_
 refine l_gives rfl rfl (g_box (vs := [_, _]) rfl rfl) rfl ?_
 intro b5 hb5
 refine lA rfl ?_
 refine nR ?_
 refine lA rfl ?_
 refine nQ ?_
 refine c_seq ?_
 refine cR ?_
 refine lV (y_fieldAddr fo_117_1 rfl) ?_
 refine lV (y_load1 ld_4 rfl m0 rfl) ?_
 refine lV (y_not rfl) ?_
 refine nQ ?_
 refine c_false rfl rfl ?_
 refine cR ?_
 refine lV (y_fieldAddr fo_117_0 rfl) ?_
 refine lV (y_load1 ld_5 rfl m0 rfl) ?_
 refine nQ ?_
 refine c_block ?_
 refine cR ?_
 refine lB rfl rfl rfl rfl ?_
 refine lA rfl ?_
 refine nQ ?_
 refine c_false rfl rfl ?_
 refine cR ?_
 refine lB rfl rfl rfl rfl ?_
 refine lA rfl ?_
 refine nQ ?_
 refine c_false rfl rfl ?_
 refine cR ?_
 refine lB rfl rfl rfl rfl ?_
 refine lA rfl ?_
 refine nQ ?_
 refine c_true rfl rfl ?_
 refine c_region ?_
 refine lM rfl ?_
 refine lN rfl ?_
 refine lV (y_fieldAddr fo_99_0 rfl) ?_
 refine lM rfl ?_
 refine l_call ok_139 rfl rfl (out_tail (A := [_, _]) (H1 := (HB bH so q.out.length q.bx (.int .i32 (vn : Nat)) (.int .i32 (hn : Nat)) v7 q.x q.y q.fx q.fy q.io (.bool sm) ((q.bx).isSome) ([.float .f64 (F 0), .float .f64 (F wq)])) :: slH so (encG q.out) 77) (fun w9 ha_ hb_ => f139_any w9 bH bM M q so (.int .i32 (vn : Nat)) (.int .i32 (hn : Nat)) v7 (.bool sm) [.float .f64 (F 0), .float .f64 (F wq)] a0 a1 a2 a3 a4 a5 a6 a7 a8 hq hB hM hok hlen (RdM_own (ha_.sub (.skip .refl)) hm) hb_)) ?_
 intro so2 hok2
 refine lA rfl ?_
 refine l_nil ?_
 refine q_block ?_
 refine qR ?_
 refine lM rfl ?_
 refine lN rfl ?_
 refine lV (y_fieldAddr fo_95_4 rfl) ?_
 refine l_call ok_141 rfl rfl (out_one [_] (b := (bM, Mc, 95)) (fun w9 ha_ hb_ => f141_any w9 bM Mc _ _ _ _ _ hm hb_)) ?_
 intro _ _
 have hmC := hm.clear
 refine nR ?_
 refine lM rfl ?_
 refine lA rfl ?_
 refine nQ ?_
 refine c_ret ?_
 exact body_ret (rs := [.tmp 6]) rfl (vs := [.nilIface]) ⟨rfl, trivial⟩ (out_end ((Mc.set 527 (.int .i32 0)), wq, so2) ⟨hmC, hok2⟩ rfl (.skip .refl)) _ (.inr rfl)
end Go.Proofs.YtbepljmeflndkaaGreatDoor
namespace Go.Fl
open Ieee
theorem mg_abs (q : Int) : mg (q.natAbs : Int) = mg q := by unfold mg; rw [Int.natAbs_natCast]; by_cases h : q = 0 <;> simp [h]
theorem pl_abs (q : Int) : pl (q.natAbs : Int) = pl q := by unfold pl; rw [Int.natAbs_natCast]; by_cases h : q = 0 <;> simp [h]
theorem abs_RF {b : Nat} {q : Int} (h : RF b q) : RF (b % 2 ^ 63) (q.natAbs : Int) := by
  obtain ⟨hq, s, hs, hs2⟩ := h
  refine ⟨by rw [Int.natAbs_natCast]; exact hq, false, ?_, fun _ => by rw [decide_eq_false (by omega)]⟩
  rw [mg_abs, pl_abs]
  have hsw : double.signWeight = 2 ^ 63 := by decide
  have h1 : (b % 2 ^ 63) % 2 ^ 63 = b % 2 ^ 63 := Nat.mod_mod _ _
  have h2 : ((b % 2 ^ 63) / 2 ^ 63 % 2 == 1) = false := by
    rw [Nat.div_eq_of_lt (Nat.mod_lt _ (by decide))]; rfl
  unfold Format.read at hs ⊢
  simp only [hsw] at hs ⊢
  rw [h1, h2]
  split at hs
  · rename_i hc
    rw [if_pos hc]
    injection hs with a1 a2 a3
    rw [a2, a3]
  · rename_i hc
    rw [if_neg hc]
    split at hs
    · rename_i hc2
      rw [if_pos hc2]
      injection hs with a1 a2 a3
      rw [a2, a3]
    · split at hs <;> cases hs
theorem F_lt (q : Int) (h : q.natAbs < 2 ^ 53) : F q < 2 ^ 64 := by
  by_cases h0 : q = 0
  · subst h0; rw [F_zero]; decide
  · rw [F_eq q h h0]
    have h1 := top_hi (by omega : q.natAbs ≠ 0) h
    have h2 := log2_le (by omega : q.natAbs ≠ 0) h
    have h3 : (-16 + (q.natAbs.log2 : Int) - 52 + 1074).toNat ≤ 1058 := by omega
    unfold Format.word
    have hsw : double.signWeight = 2 ^ 63 := by decide
    rw [hsw]
    have h4 : (-16 + (q.natAbs.log2 : Int) - 52 + 1074).toNat * 2 ^ 52 ≤ 1058 * 2 ^ 52 := Nat.mul_le_mul_right _ h3
    split <;> omega
end Go.Fl
namespace Go.Proofs.YtbepljmeflndkaaGreatDoor
open Go.Eng Go.Fl
theorem ext157 (b : Nat) (w : World) : (callFunc 157 #[.float .f64 b]).run Tryz.prog w = .ok (.value (.int .u64 b)) w := by
  rw [run_callFunc_extern (fn := Tryz.f157) (e := Extern.MathFloatBits.float64bits) (by kernel_rfl) (by kernel_rfl) (by kernel_rfl) (by kernel_rfl) (by kernel_rfl)]
  rfl
theorem ext156 (b : Nat) (w : World) : (callFunc 156 #[.int .u64 (b : Nat)]).run Tryz.prog w = .ok (.value (.float .f64 b)) w := by
  rw [run_callFunc_extern (fn := Tryz.f156) (e := Extern.MathFloatBits.float64frombits) (by kernel_rfl) (by kernel_rfl) (by kernel_rfl) (by kernel_rfl) (by kernel_rfl)]
  rfl
section
variable {n : Nat} {D : List Deferred} {w0 : World} {S : List Nat} {L : Slots} {H : Heap} {d : Option Tmp} {ty : TypeId} {pos : String} {af : Array Edge} {gd : Option (Nat × Bool)}
theorem y_ext {f : Nat} {args : Array Operand} {tys : Array TypeId} {vals : List Value} {v : Value} (hargs : evs L args.toList = some vals) (hc : ∀ w, (callFunc f vals.toArray).run Tryz.prog w = .ok (.value v) w) :
    Go.Eng.Yields Tryz.prog n D w0 S ⟨d, .call { callee := .value (.func f), args, argTypes := tys }, ty, pos, af, gd⟩ L H v := by
  intro a w ha hw
  have h1 : args.map a.eval = vals.toArray := by
    rw [← ha.evs_eq _ _ hargs]
    apply Array.toList_inj.1
    simp
  have hx : a.eval (.func f) = .func (.func f) #[] #[] := rfl
  have h2 : (#[] ++ vals.toArray ++ #[] : Array Value) = vals.toArray := by simp
  simp only [execOp, resolve, hx, Deferred.ofValue, invoke, Sem.run_bind, Sem.run_pure, Result.andThen_ok, h1, h2, hc]
theorem y_andNot {P : Program} {t u : TypeId} {x y : Operand} {i : Nat} {v' : Value} (hx : ev L x = some (.int .u64 (i : Nat))) (hy : ev L y = some (.int .u64 9223372036854775808)) (hi : i < 2 ^ 64) (hv' : Value.int .u64 ((i % 2 ^ 63 : Nat) : Int) = v') :
    Go.Eng.Yields P n D w0 S ⟨d, .binOp .andNot t x y u, ty, pos, af, gd⟩ L H v' := by
  intro a w ha hw
  subst hv'
  have h1 : (BitVec.ofInt 64 (i : Int) &&& ~~~BitVec.ofInt 64 9223372036854775808).toNat = i % 2 ^ 63 := by
    have e1 : ~~~BitVec.ofInt 64 9223372036854775808 = BitVec.ofNat 64 (2 ^ 63 - 1) := by decide
    rw [e1, BitVec.toNat_and, BitVec.ofInt_natCast, BitVec.toNat_ofNat, BitVec.toNat_ofNat, Nat.mod_eq_of_lt hi, Nat.mod_eq_of_lt (by decide), Nat.and_two_pow_sub_one_eq_mod]
  have h2 : IntKind.u64.wrap ((i % 2 ^ 63 : Nat) : Int) = ((i % 2 ^ 63 : Nat) : Int) := by
    simp only [IntKind.wrap, IntKind.bits, IntKind.signed]; simp; omega
  have h3 : (Op.intBits .andNot .u64 (i : Int) 9223372036854775808).run P w = .ok (.int .u64 ((i % 2 ^ 63 : Nat) : Int)) w := by
    show (pure (Value.int .u64 (IntKind.u64.wrap ((BitVec.ofInt 64 (i : Int) &&& ~~~BitVec.ofInt 64 9223372036854775808).toNat : Nat))) : Sem Value).run P w = _
    rw [h1, h2, Sem.run_pure]
  simp [execOp, ha.ev_eq hx, ha.ev_eq hy, eqGuard_at_int, binOp, h3]
end
theorem f153_any (w : World) (q : Int) (hq : q.natAbs < 2 ^ 53) : Calls Tryz.prog 153 [.float .f64 (F q)].toArray w (Out w [] (fun _ : Unit => True) (fun _ => .float .f64 (F q % 2 ^ 63)) (fun _ => [])) := by
 refine enter (n := 7) Tryz.func153 rfl rfl rfl (Hp.refl w) ?_
 refine cR ?_
 refine lA rfl ?_
 refine nR ?_
 refine lM rfl ?_
 refine lV (y_ext rfl (ext157 _)) ?_
 refine lV (y_andNot rfl rfl (F_lt q hq) rfl) ?_
 refine lV (y_ext rfl (ext156 _)) ?_
 refine lA rfl ?_
 refine nQ ?_
 refine c_ret ?_
 exact body_ret (rs := [.tmp 2]) rfl (vs := [.float .f64 (F q % 2 ^ 63)]) ⟨rfl, trivial⟩ (out_end () trivial rfl .nil) _ (.inr rfl)
end Go.Proofs.YtbepljmeflndkaaGreatDoor
