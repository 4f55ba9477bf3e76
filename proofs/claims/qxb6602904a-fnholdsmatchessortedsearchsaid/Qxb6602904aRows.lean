/-
  No cell of these rows narrows 'for every input' (looked for: loops, veiled, ifaces, maps, wideKeys, modest, calm, conditions, laid).
  DERIVED. THE GIVEN ROWS OF THIS SEAT. 2 by the template 'for every input the law returns true; each argument reads behind the call as it read before'; 0 by the template 'total and deterministic' (their statements: Qxb6602904aTotals.lean).
  GIVEN WITH THE SEED: the statements are not yours to turn. If you find one false, say at which input.
  Laid BY PROGRAM, IN A SANDBOX (cutbox-rows.mjs): the forced cells as the released guide's own fill.sh prints them over the translation 6d66292b511f849c… (all of the seat's roots in one cut). By AI agents, Wed Nov 11 2026. No macro, syntax, notation, axiom, sorry.
-/
import Derived.Test.Qxb6602904aChecked
import GoSem.Claim
import GoSem.ClaimJoined
import GoSem.ClaimMapViews
import Derived.JoinedTies
import Derived.KernelRfl
namespace Go.Proofs.Qxb6602904a
/- THE CELL 'sum', in the pinned program and in every row, IS THE sha256 OF THE DUMP (.gsa) THAT Qxb6602904aProg.lean LOADS. Nothing in Lean hashes anything: it is a label: what it is worth is what the hold of that sum in a sandbox is worth. -/
noncomputable def Try.pinned : Pinned := { name := "qxb6602904a", sum := "6d66292b511f849cf0f6b1febc4e1883208142a71da74b3c9c818042a843060f", checked := Try.checked }
namespace Rows
def none {H : Type} : Left H := { results := [], args := [] }

/-- 'zzlaws_internal_cgroup_b1.FnHoldsMatchesSortedSearch': WHATEVER THE INPUT: true; the input reads as it did. -/
def fnHoldsMatchesSortedSearchSpec : ChangeSpec := { name := "fnHoldsMatchesSortedSearch", fn := fun _ => fun
  | [d1, d2] => { results := [.lit (.bool true)], args := [d1, d2] }
  | _ => none }
def fnHoldsMatchesSortedSearchRow : OpenClaim := { program := "qxb6602904a", sum := "6d66292b511f849cf0f6b1febc4e1883208142a71da74b3c9c818042a843060f", func := "example.com/holdfast/holdfast/zzlaws_internal_cgroup_b1.FnHoldsMatchesSortedSearch", spec := "fnHoldsMatchesSortedSearch", recurses := true, apart := false }
def FnHoldsMatchesSortedSearchSaid : Prop := fnHoldsMatchesSortedSearchRow.holds Try.pinned (OpenSpec.ofChange fnHoldsMatchesSortedSearchSpec)

/-- ITS FALSE NEIGHBOUR: 'it returns false'. Refute it at one input. -/
def fnHoldsMatchesSortedSearchWrong : ChangeSpec := { name := "fnHoldsMatchesSortedSearch", fn := fun _ => fun
  | [d1, d2] => { results := [.lit (.bool false)], args := [d1, d2] }
  | _ => none }
def FnHoldsMatchesSortedSearchWrongFalsely : Prop := fnHoldsMatchesSortedSearchRow.holds Try.pinned (OpenSpec.ofChange fnHoldsMatchesSortedSearchWrong)

/-- 'zzlaws_internal_cgroup_b1.FnHoldsOverConcatenation': WHATEVER THE INPUT: true; the input reads as it did. -/
def fnHoldsOverConcatenationSpec : ChangeSpec := { name := "fnHoldsOverConcatenation", fn := fun _ => fun
  | [d1, d2, d3] => { results := [.lit (.bool true)], args := [d1, d2, d3] }
  | _ => none }
def fnHoldsOverConcatenationRow : OpenClaim := { program := "qxb6602904a", sum := "6d66292b511f849cf0f6b1febc4e1883208142a71da74b3c9c818042a843060f", func := "example.com/holdfast/holdfast/zzlaws_internal_cgroup_b1.FnHoldsOverConcatenation", spec := "fnHoldsOverConcatenation", apart := false }
def FnHoldsOverConcatenationSaid : Prop := fnHoldsOverConcatenationRow.holds Try.pinned (OpenSpec.ofChange fnHoldsOverConcatenationSpec)

/-- ITS FALSE NEIGHBOUR: 'it returns false'. Refute it at one input. -/
def fnHoldsOverConcatenationWrong : ChangeSpec := { name := "fnHoldsOverConcatenation", fn := fun _ => fun
  | [d1, d2, d3] => { results := [.lit (.bool false)], args := [d1, d2, d3] }
  | _ => none }
def FnHoldsOverConcatenationWrongFalsely : Prop := fnHoldsOverConcatenationRow.holds Try.pinned (OpenSpec.ofChange fnHoldsOverConcatenationWrong)

end Rows
end Go.Proofs.Qxb6602904a
