/-
  No cell of these rows narrows 'for every input' (looked for: loops, veiled, ifaces, maps, wideKeys, modest, calm, conditions, laid).
  DERIVED. THE GIVEN ROWS OF THIS SEAT. 3 by the template 'for every input the law returns true; each argument reads behind the call as it read before'; 0 by the template 'total and deterministic' (their statements: Qxb6003312aTotals.lean).
  GIVEN WITH THE SEED: the statements are not yours to turn. If you find one false, say at which input.
  Laid BY PROGRAM, IN A SANDBOX (cutbox-rows.mjs): the forced cells as the released guide's own fill.sh prints them over the translation f78c77547e285e4f… (all of the seat's roots in one cut). By AI agents, Wed Nov 11 2026. No macro, syntax, notation, axiom, sorry.
-/
import Derived.Test.Qxb6003312aChecked
import GoSem.Claim
import GoSem.ClaimJoined
import GoSem.ClaimMapViews
import Derived.JoinedTies
import Derived.KernelRfl
namespace Go.Proofs.Qxb6003312a
/- THE CELL 'sum', in the pinned program and in every row, IS THE sha256 OF THE DUMP (.gsa) THAT Qxb6003312aProg.lean LOADS. Nothing in Lean hashes anything: it is a label: what it is worth is what the hold of that sum in a sandbox is worth. -/
noncomputable def Try.pinned : Pinned := { name := "qxb6003312a", sum := "f78c77547e285e4f44e7f1fbf4bc9ccea47f9cfc55ad6ff37c34cb3069c9c9be", checked := Try.checked }
namespace Rows
def none {H : Type} : Left H := { results := [], args := [] }

/-- 'zzlaws_cyclon_c1.PropDrawTakesDistinctLeavesEntries': WHATEVER THE INPUT: true; the input reads as it did. -/
def propDrawTakesDistinctLeavesEntriesSpec : ChangeSpec := { name := "propDrawTakesDistinctLeavesEntries", fn := fun _ => fun
  | [d1, d2, d3] => { results := [.lit (.bool true)], args := [d1, d2, d3] }
  | _ => none }
def propDrawTakesDistinctLeavesEntriesRow : OpenClaim := { program := "qxb6003312a", sum := "f78c77547e285e4f44e7f1fbf4bc9ccea47f9cfc55ad6ff37c34cb3069c9c9be", func := "example.com/churnweave/churnweave/zzlaws_cyclon_c1.PropDrawTakesDistinctLeavesEntries", spec := "propDrawTakesDistinctLeavesEntries", unfollowed := true, recurses := true, apart := false }
def PropDrawTakesDistinctLeavesEntriesSaid : Prop := propDrawTakesDistinctLeavesEntriesRow.holds Try.pinned (OpenSpec.ofChange propDrawTakesDistinctLeavesEntriesSpec)

/-- ITS FALSE NEIGHBOUR: 'it returns false'. Refute it at one input. -/
def propDrawTakesDistinctLeavesEntriesWrong : ChangeSpec := { name := "propDrawTakesDistinctLeavesEntries", fn := fun _ => fun
  | [d1, d2, d3] => { results := [.lit (.bool false)], args := [d1, d2, d3] }
  | _ => none }
def PropDrawTakesDistinctLeavesEntriesWrongFalsely : Prop := propDrawTakesDistinctLeavesEntriesRow.holds Try.pinned (OpenSpec.ofChange propDrawTakesDistinctLeavesEntriesWrong)

/-- 'zzlaws_cyclon_c1.PropMergeKeepsViewInvariants': WHATEVER THE INPUT: true; the input reads as it did. -/
def propMergeKeepsViewInvariantsSpec : ChangeSpec := { name := "propMergeKeepsViewInvariants", fn := fun _ => fun
  | [d1, d2, d3, d4, d5, d6, d7] => { results := [.lit (.bool true)], args := [d1, d2, d3, d4, d5, d6, d7] }
  | _ => none }
def propMergeKeepsViewInvariantsRow : OpenClaim := { program := "qxb6003312a", sum := "f78c77547e285e4f44e7f1fbf4bc9ccea47f9cfc55ad6ff37c34cb3069c9c9be", func := "example.com/churnweave/churnweave/zzlaws_cyclon_c1.PropMergeKeepsViewInvariants", spec := "propMergeKeepsViewInvariants", unfollowed := true, recurses := true, apart := false }
def PropMergeKeepsViewInvariantsSaid : Prop := propMergeKeepsViewInvariantsRow.holds Try.pinned (OpenSpec.ofChange propMergeKeepsViewInvariantsSpec)

/-- ITS FALSE NEIGHBOUR: 'it returns false'. Refute it at one input. -/
def propMergeKeepsViewInvariantsWrong : ChangeSpec := { name := "propMergeKeepsViewInvariants", fn := fun _ => fun
  | [d1, d2, d3, d4, d5, d6, d7] => { results := [.lit (.bool false)], args := [d1, d2, d3, d4, d5, d6, d7] }
  | _ => none }
def PropMergeKeepsViewInvariantsWrongFalsely : Prop := propMergeKeepsViewInvariantsRow.holds Try.pinned (OpenSpec.ofChange propMergeKeepsViewInvariantsWrong)

/-- 'zzlaws_cyclon_c1.PropAskAgesRemovesOldestBuildsRequest': WHATEVER THE INPUT: true; the input reads as it did. -/
def propAskAgesRemovesOldestBuildsRequestSpec : ChangeSpec := { name := "propAskAgesRemovesOldestBuildsRequest", fn := fun _ => fun
  | [d1, d2, d3, d4] => { results := [.lit (.bool true)], args := [d1, d2, d3, d4] }
  | _ => none }
def propAskAgesRemovesOldestBuildsRequestRow : OpenClaim := { program := "qxb6003312a", sum := "f78c77547e285e4f44e7f1fbf4bc9ccea47f9cfc55ad6ff37c34cb3069c9c9be", func := "example.com/churnweave/churnweave/zzlaws_cyclon_c1.PropAskAgesRemovesOldestBuildsRequest", spec := "propAskAgesRemovesOldestBuildsRequest", unfollowed := true, recurses := true, apart := false }
def PropAskAgesRemovesOldestBuildsRequestSaid : Prop := propAskAgesRemovesOldestBuildsRequestRow.holds Try.pinned (OpenSpec.ofChange propAskAgesRemovesOldestBuildsRequestSpec)

/-- ITS FALSE NEIGHBOUR: 'it returns false'. Refute it at one input. -/
def propAskAgesRemovesOldestBuildsRequestWrong : ChangeSpec := { name := "propAskAgesRemovesOldestBuildsRequest", fn := fun _ => fun
  | [d1, d2, d3, d4] => { results := [.lit (.bool false)], args := [d1, d2, d3, d4] }
  | _ => none }
def PropAskAgesRemovesOldestBuildsRequestWrongFalsely : Prop := propAskAgesRemovesOldestBuildsRequestRow.holds Try.pinned (OpenSpec.ofChange propAskAgesRemovesOldestBuildsRequestWrong)

end Rows
end Go.Proofs.Qxb6003312a
