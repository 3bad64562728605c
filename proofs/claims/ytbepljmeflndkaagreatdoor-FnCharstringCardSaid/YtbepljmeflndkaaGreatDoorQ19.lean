/- For every charstring and every two lists of subroutines, where the listed package variables lie as the program's text lays them (the tied card): FnCharstring returns true, and its arguments read as before. -/
import Derived.Test.YtbepljmeflndkaaGreatDoorQ18
import Derived.Test.YtbepljmeflndkaaGreatDoorTie
import Derived.Test.YtbepljmeflndkaaGreatDoorCards
import Derived.SevenTiedAt
namespace Go.Proofs.YtbepljmeflndkaaGreatDoor
open Go
theorem fnCharstring_card_holds : Rows.FnCharstringCardSaid :=
  Claim7.holds_tied_plain_at .later [] [.data, .data, .widerDeep, .widerDeep, .data, .data, .data, .data, .data, .sentinel, .sentinel, .data, .pinned, .pinned] true (true, "6c0f0e7735eb40e70225f772f9d96d53a417378f4ed56b97d6db30042e838ba6") true
    fnCharstring_holds (fun _ h => by cases h) (by kernel_rfl) (fun _ h => by cases h) fnCharstring_row_tie rfl ⟨rfl, rfl⟩ (by kernel_rfl) rfl
    (fun f fn hf hfn => by
      obtain rfl : f = 3 := Option.some.inj ((show Tryz.prog.funcNamed "given.example/pub-swashbook/laws.FnCharstring" = some 3 by kernel_rfl).symm.trans hf) |>.symm
      obtain rfl : fn = Tryz.f3 := (Option.some.inj (Tryz.func3.symm.trans hfn)).symm
      exact ⟨by kernel_rfl, fun j t ht => by
        rw [Tryz.params3] at ht
        have hm : t ∈ [22, 23, 23] := by simpa using Array.mem_of_getElem? ht
        have hall : ([22, 23, 23].all fun u => !Tryz.prog.wantsStandIn u) = true := by kernel_rfl
        exact (show Tryz.prog.wantsStandIn t = false by simpa using List.all_eq_true.1 hall t hm)⟩)
    (by kernel_rfl)
#print axioms fnCharstring_card_holds
end Go.Proofs.YtbepljmeflndkaaGreatDoor
