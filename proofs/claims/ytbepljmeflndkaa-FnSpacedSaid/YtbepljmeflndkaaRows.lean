/-
  No cell of these rows narrows 'for every input' (looked for: loops, veiled, ifaces, maps, wideKeys, modest, calm, conditions, laid).
  DERIVED. THE GIVEN ROWS OF THIS SEAT. 2 by the template 'for every input the law returns true; each argument reads behind the call as it read before'; 0 by the template 'total and deterministic' (their statements: YtbepljmeflndkaaTotals.lean).
  GIVEN WITH THE SEED: the statements are not yours to turn. If you find one false, say at which input.
  Laid BY PROGRAM, IN A SANDBOX (cutbox-rows.mjs): the forced cells as the released guide's own fill.sh prints them over the translation 0fbd130c2108bc7b… (all of the seat's roots in one cut). By AI agents, Wed Nov 11 2026. No macro, syntax, notation, axiom, sorry.
-/
import Derived.Test.YtbepljmeflndkaaChecked
import GoSem.Claim
import GoSem.ClaimJoined
import GoSem.ClaimMapViews
import Derived.JoinedTies
import Derived.KernelRfl
namespace Go.Proofs.Ytbepljmeflndkaa
/- THE CELL 'sum', in the pinned program and in every row, IS THE sha256 OF THE DUMP (.gsa) THAT YtbepljmeflndkaaProg.lean LOADS. Nothing in Lean hashes anything: it is a label: what it is worth is what the hold of that sum in a sandbox is worth. -/
noncomputable def Try.pinned : Pinned := { name := "ytbepljmeflndkaa", sum := "0fbd130c2108bc7b9c7da124dde80bc5ae659c0b15e2baa0883f32eb1171c40b", checked := Try.checked }
namespace Rows
def none {H : Type} : Left H := { results := [], args := [] }

/-- 'laws.FnRecalculated': WHATEVER THE INPUT: true; the input reads as it did. -/
def fnRecalculatedSpec : ChangeSpec := { name := "fnRecalculated", fn := fun _ => fun
  | [d1, d2] => { results := [.lit (.bool true)], args := [d1, d2] }
  | _ => none }
def fnRecalculatedRow : OpenClaim := { program := "ytbepljmeflndkaa", sum := "0fbd130c2108bc7b9c7da124dde80bc5ae659c0b15e2baa0883f32eb1171c40b", func := "given.example/pub-swashbook/laws.FnRecalculated", spec := "fnRecalculated", unfollowed := true, recurses := true, apart := false }
def FnRecalculatedSaid : Prop := fnRecalculatedRow.holds Try.pinned (OpenSpec.ofChange fnRecalculatedSpec)

/-- ITS FALSE NEIGHBOUR: 'it returns false'. Refute it at one input. -/
def fnRecalculatedWrong : ChangeSpec := { name := "fnRecalculated", fn := fun _ => fun
  | [d1, d2] => { results := [.lit (.bool false)], args := [d1, d2] }
  | _ => none }
def FnRecalculatedWrongFalsely : Prop := fnRecalculatedRow.holds Try.pinned (OpenSpec.ofChange fnRecalculatedWrong)

/-- 'laws.FnSpaced': WHATEVER THE INPUT: true; the input reads as it did. -/
def fnSpacedSpec : ChangeSpec := { name := "fnSpaced", fn := fun _ => fun
  | [d1, d2, d3, d4, d5] => { results := [.lit (.bool true)], args := [d1, d2, d3, d4, d5] }
  | _ => none }
def fnSpacedRow : OpenClaim := { program := "ytbepljmeflndkaa", sum := "0fbd130c2108bc7b9c7da124dde80bc5ae659c0b15e2baa0883f32eb1171c40b", func := "given.example/pub-swashbook/laws.FnSpaced", spec := "fnSpaced", unfollowed := true, recurses := true, apart := false }
def FnSpacedSaid : Prop := fnSpacedRow.holds Try.pinned (OpenSpec.ofChange fnSpacedSpec)

/-- ITS FALSE NEIGHBOUR: 'it returns false'. Refute it at one input. -/
def fnSpacedWrong : ChangeSpec := { name := "fnSpaced", fn := fun _ => fun
  | [d1, d2, d3, d4, d5] => { results := [.lit (.bool false)], args := [d1, d2, d3, d4, d5] }
  | _ => none }
def FnSpacedWrongFalsely : Prop := fnSpacedRow.holds Try.pinned (OpenSpec.ofChange fnSpacedWrong)

/- THE SECOND FORM. 'bulk': how many values and letters a reading holds, each counted each time it is reached (what is shared counts as often as it is met; a slice's spare places count too). A statement '..UptoSaid' is the law's where the arguments, and the package variables that the reading takes, are together of bulk at most 1048576: NARROWER than '..Said'. Prove '..Said' where nothing that the law and all that it calls make is longer than what came in: it says more and counts as full. Else prove '..UptoSaid'. A law counts once. -/
mutual
def uptoBulk {H : Type} : DataW H → Nat
  | .lit (.string bytes) => bytes.length + 1
  | .lit _ => 1
  | .nil => 1
  | .ptr d => uptoBulk d + 1
  | .slice elems spare => uptoBulkAll elems + uptoBulkAll spare + 1
  | .agg parts => uptoBulkAll parts + 1
  | .iface _ d => uptoBulk d + 1
  | .map entries => uptoBulkEntries entries + 1
  | .held _ => 1
def uptoBulkAll {H : Type} : List (DataW H) → Nat
  | [] => 0
  | d :: r => uptoBulk d + uptoBulkAll r
def uptoBulkEntries {H : Type} : List (Lit × DataW H) → Nat
  | [] => 0
  | x :: r => uptoBulkEntry x + uptoBulkEntries r
def uptoBulkEntry {H : Type} : Lit × DataW H → Nat
  | (.string bytes, d) => bytes.length + uptoBulk d + 1
  | (_, d) => uptoBulk d + 1
 end
def uptoSmall : (H : Type) → List (DataW H) → Bool := fun _ ds => decide (uptoBulkAll ds ≤ 1048576)
def OpenSpec.upto (s : _root_.Go.ChangeSpec) : _root_.Go.OpenSpec := { _root_.Go.OpenSpec.ofChange s with cond := some uptoSmall }

/-- 'laws.FnRecalculated', WHERE WHAT IT READS IS OF BULK AT MOST 1048576: true; the input reads as it did. -/
def fnRecalculatedUptoRow : OpenClaim := { program := "ytbepljmeflndkaa", sum := "0fbd130c2108bc7b9c7da124dde80bc5ae659c0b15e2baa0883f32eb1171c40b", func := "given.example/pub-swashbook/laws.FnRecalculated", spec := "fnRecalculated", unfollowed := true, recurses := true, apart := false, narrowed := true }
def FnRecalculatedUptoSaid : Prop := fnRecalculatedUptoRow.holds Try.pinned (OpenSpec.upto fnRecalculatedSpec)

/-- 'laws.FnSpaced', WHERE WHAT IT READS IS OF BULK AT MOST 1048576: true; the input reads as it did. -/
def fnSpacedUptoRow : OpenClaim := { program := "ytbepljmeflndkaa", sum := "0fbd130c2108bc7b9c7da124dde80bc5ae659c0b15e2baa0883f32eb1171c40b", func := "given.example/pub-swashbook/laws.FnSpaced", spec := "fnSpaced", unfollowed := true, recurses := true, apart := false, narrowed := true }
def FnSpacedUptoSaid : Prop := fnSpacedUptoRow.holds Try.pinned (OpenSpec.upto fnSpacedSpec)

end Rows
end Go.Proofs.Ytbepljmeflndkaa
