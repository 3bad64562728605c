/- Small functions that only compute. -/
import Derived.Test.YtbepljmeflndkaaRows
import Derived.Test.YtbepljmeflndkaaEng
namespace Go.Proofs.Ytbepljmeflndkaa
open Go.RowKit

def sm (x : Int) : Int := IntKind.i16.wrap x
theorem sm_bd (x : Int) : -32768 ≤ sm x ∧ sm x ≤ 32767 := by
  unfold sm IntKind.wrap
  simp [IntKind.signed, IntKind.bits]
  omega

theorem f18_any (x : Int) (w : World) : Calls Try.prog 18 #[.int .i64 x] w fun e w' => e = .returned (.int .i64 (sm x)) ∧ w' = w := by
  have hb := sm_bd x
  go_enter Try.func18, Try.ntmps18
  go_wp2
  go_ret
  refine ⟨?_, rfl⟩
  unfold sm at *
  have e : wrap64 (IntKind.i16.wrap x) = IntKind.i16.wrap x := by unfold wrap64; omega
  show Ending.returned (.int .i64 (wrap64 (IntKind.i16.wrap x))) = _
  rw [e]

theorem f32_any (d : Int) (h : 0 ≤ d ∧ d ≤ 3) (w : World) : Calls Try.prog 32 #[.int .u8 d] w fun e w' => e = .returned (.bool (decide (2 ≤ d))) ∧ w' = w := by
  obtain ⟨h0, h1⟩ := h
  have : d = 0 ∨ d = 1 ∨ d = 2 ∨ d = 3 := by omega
  clear h0 h1
  rcases this with rfl | rfl | rfl | rfl
  all_goals
    go_enter Try.func32, Try.ntmps32
    go_wp2
    go_ret
    exact ⟨rfl, rfl⟩

theorem f25_any (x : Int) (h : -1048576 ≤ x ∧ x ≤ 1048576) (w : World) : Calls Try.prog 25 #[.int .i64 x] w fun e w' => e = .returned (.bool true) ∧ w' = w := by
  obtain ⟨h0, h1⟩ := h
  go_enter Try.func25, Try.ntmps25
  go_wp2
  go_ret
  exact ⟨rfl, rfl⟩
end Go.Proofs.Ytbepljmeflndkaa
