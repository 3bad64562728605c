/- EqualFunc on runs. -/
import Derived.Test.YtbepljmeflndkaaL
import Derived.Test.YtbepljmeflndkaaW
import Derived.Test.YtbepljmeflndkaaS
namespace Go.Proofs.Ytbepljmeflndkaa
open Go.Eng
set_option maxRecDepth 100000
attribute [local irreducible] IntKind.wrap Int.tdiv Int.tmod Int.emod sm encO encG maxLen sepr

set_option maxHeartbeats 2000000 in
theorem f15_any (w : World) (A1 A2 : Option Addr) (c1 c2 : Nat) (dir : Int) (r1 r2 : List RV) (hR1 : RdV w A1 dir r1) (hR2 : RdV w A2 dir r2) (ht : r1.map RV.told = r2.map RV.told) (hlen : r1.length ≤ 1000) (hlr : ∀ r ∈ r1, r.gs.length ≤ 1000) :
    Calls Try.prog 15 [Value.slice A1 r1.length c1, .slice A2 r2.length c2, .func (.func 6) #[] #[]].toArray w (Out w [] (fun _ : Unit => True) (fun _ => .bool true) (fun _ => [])) := by
  have hll : r1.length = r2.length := by simpa using congrArg List.length ht
  refine enter (n := 32) Try.func15 rfl rfl rfl (Hp.refl w) ?_
  refine c_seq ?_
  -- region 0
  refine c_region ?_
  refine l_val (y_assign rfl) rfl rfl rfl ?_
  refine l_nil ?_
  refine q_then ?_
  refine c_seq ?_
  refine c_seq ?_
  -- region 1
  refine c_region ?_
  refine l_val (y_move rfl) rfl rfl rfl ?_
  refine l_val (y_len sl_34 rfl) rfl rfl rfl ?_
  refine l_val (y_move rfl) rfl rfl rfl ?_
  refine l_val (y_len sl_34 rfl) rfl rfl rfl ?_
  refine l_val (y_bin rfl rfl rfl (boolNe (by omega))) rfl rfl rfl ?_
  refine l_nil ?_
  refine q_then ?_
  refine c_false rfl rfl ?_
  refine c_skip ?_
  refine q_then ?_
  refine c_seq ?_
  refine c_seq ?_
  -- region 3
  refine c_region ?_
  refine l_val (y_move rfl) rfl rfl rfl ?_
  refine l_val (y_len sl_34 rfl) rfl rfl rfl ?_
  refine l_val (y_move rfl) rfl rfl rfl ?_
  refine l_nil ?_
  refine q_then ?_
  refine c_block ?_
  refine c_loop (ι := Nat) (φ := fun k => k ≤ r1.length) (L' := fun k => [(1, .slice A2 r2.length c2), (2, .func (.func 6) #[] #[]), (15, .slice A1 r1.length c1), (16, .int .i64 (r1.length : Int)), (17, .int .i64 (k : Int))]) (H' := fun _ => []) (fun k => r1.length - k) 0 (Nat.zero_le _) ⟨rfl, rfl, rfl, rfl, rfl, trivial⟩ .nil ?_
  intro k hk
  refine c_seq ?_
  -- region 4
  refine c_region ?_
  refine l_val (y_bin rfl rfl rfl rfl) rfl rfl rfl ?_
  refine l_nil ?_
  refine q_then ?_
  refine c_seq ?_
  refine c_cond rfl (fun hc18 => ?_) (fun hc18 => ?_)
  · skip
    have hk2 : k < r1.length := by simp only [decide_eq_true_eq] at hc18; omega
    have hk3 : k < r2.length := by omega
    obtain ⟨r, hr⟩ := some_at hk2
    obtain ⟨s, hs⟩ := some_at hk3
    obtain ⟨hcap, hRO, p, rfl, hpb, hpc⟩ := hR1 k r hr
    obtain ⟨hcap2, hRO2, q, rfl, hqb, hqc⟩ := hR2 k s hs
    have hst : s.told = r.told := by have h := congrArg (fun l : List (Int × List OG) => l[k]?) ht; simp only [List.getElem?_map, hr, hs, Option.map_some, Option.some.injEq] at h; exact h.symm
    have hs1 : s.ad = r.ad := congrArg Prod.fst hst
    have hs2 : s.gs = r.gs := congrArg Prod.snd hst
    unfold RV.cells at hqc
    rw [hs1, hs2] at hqc
    rw [hs2] at hRO2
    refine c_skip ?_
    refine q_then ?_
    refine c_seq ?_
    refine c_block ?_
    refine c_seq ?_
    -- region 5
    refine c_region ?_
    refine l_val (y_move rfl) rfl rfl rfl ?_
    refine l_val (y_indexAddr es_34 rfl rfl hk2) rfl rfl rfl ?_
    refine l_val (y_oldLoadN (vs := RV.cells dir r) ld_24 rfl (by rw [block_add]; exact hpb) (by simp) rfl (fun j v hj => by rw [add_add]; exact hpc j v hj)) rfl rfl rfl ?_
    refine l_gives rfl rfl (g_alloc ze_24) rfl ?_
    intro b8 hb8
    refine l_val (y_assign rfl) rfl rfl rfl ?_
    refine l_does rfl rfl (g_storeN (vs := [_, _, _, _, _, _]) (cs' := [_, _, _, _, _, _]) sz_24 rfl rfl rfl rfl rfl rfl rfl .here) ?_
    intro _ _
    refine l_nil ?_
    refine q_then ?_
    refine c_seq ?_
    -- region 6
    refine c_region ?_
    refine l_val (y_move rfl) rfl rfl rfl ?_
    refine l_val (y_move rfl) rfl rfl rfl ?_
    refine l_val (y_indexAddr es_34 rfl rfl hk3) rfl rfl rfl ?_
    refine l_val (y_oldLoadN (vs := uC dir r.ad 8 9 10 (.slice s.A r.gs.length s.cap)) ld_24 rfl (by rw [block_add]; exact hqb) (by simp) rfl (fun j v hj => by rw [add_add]; exact hqc j v hj)) rfl rfl rfl ?_
    refine l_gives rfl rfl (g_alloc ze_24) rfl ?_
    intro b9 hb9
    refine l_does rfl rfl (g_storeN (vs := [_, _, _, _, _, _]) (cs' := [_, _, _, _, _, _]) sz_24 rfl rfl rfl rfl rfl rfl rfl .here) ?_
    intro _ _
    refine l_nil ?_
    refine q_then ?_
    refine c_seq ?_
    -- region 7
    refine c_region ?_
    refine l_val (y_move rfl) rfl rfl rfl ?_
    refine l_val (y_loadN (vs := [_, _, _, _, _, _]) ld_24 rfl m1 rfl rfl) rfl rfl rfl ?_
    refine l_val (y_loadN (vs := [_, _, _, _, _, _]) ld_24 rfl m0 rfl rfl) rfl rfl rfl ?_
    refine l_callV rfl ok_6 rfl rfl (fun w1 hw1 => out_plain hw1 (f6_any w1 r.A s.A r.cap s.cap r.gs dir r.ad 8 9 10 _ _ rfl rfl (hRO.keep hw1) (hRO2.keep hw1) (hlr r (List.mem_of_getElem? hr)))) ?_
    intro _ _
    refine l_val (y_not rfl) rfl rfl rfl ?_
    refine l_nil ?_
    refine q_then ?_
    refine c_false rfl rfl ?_
    refine c_skip ?_
    refine q_block ?_
    refine q_then ?_
    -- region 9
    refine c_region ?_
    refine l_val (y_bin rfl rfl rfl (fitN (m := k + 1) (by omega) (by omega))) rfl rfl rfl ?_
    refine l_val (y_move rfl) rfl rfl rfl ?_
    refine l_nil ?_
    exact q_rnd (k + 1) hk2 (by omega) ⟨rfl, rfl, rfl, rfl, rfl, trivial⟩ .nil
  · skip
    refine c_exit ?_
    refine q_then_exit ?_
    refine q_rnd_exit ?_
    refine q_block_exit ?_
    refine q_then ?_
    refine c_seq ?_
    -- region 10
    refine c_region ?_
    refine l_val (y_assign rfl) rfl rfl rfl ?_
    refine l_nil ?_
    refine q_then ?_
    refine c_ret ?_
    exact body_ret (rs := [.tmp 6]) rfl (vs := [.bool true]) ⟨rfl, trivial⟩ (out_end () trivial rfl .nil) _ (.inr rfl)

end Go.Proofs.Ytbepljmeflndkaa
