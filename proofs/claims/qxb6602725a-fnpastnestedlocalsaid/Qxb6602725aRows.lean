/-
  No cell of these rows narrows 'for every input' (looked for: loops, veiled, ifaces, maps, wideKeys, modest, calm, conditions, laid).
  DERIVED. THE GIVEN ROWS OF THIS SEAT. 4 by the template 'for every input the law returns true; each argument reads behind the call as it read before'; 0 by the template 'total and deterministic' (their statements: Qxb6602725aTotals.lean).
  GIVEN WITH THE SEED: the statements are not yours to turn. If you find one false, say at which input.
  Laid BY PROGRAM, IN A SANDBOX (cutbox-rows.mjs): the forced cells as the released guide's own fill.sh prints them over the translation 6453fb0914ad598c… (all of the seat's roots in one cut). By AI agents, Wed Nov 11 2026. No macro, syntax, notation, axiom, sorry.
-/
import Derived.Test.Qxb6602725aChecked
import GoSem.Claim
import GoSem.ClaimJoined
import GoSem.ClaimMapViews
import Derived.JoinedTies
import Derived.KernelRfl
namespace Go.Proofs.Qxb6602725a
/- THE CELL 'sum', in the pinned program and in every row, IS THE sha256 OF THE DUMP (.gsa) THAT Qxb6602725aProg.lean LOADS. Nothing in Lean hashes anything: it is a label: what it is worth is what the hold of that sum in a sandbox is worth. -/
noncomputable def Try.pinned : Pinned := { name := "qxb6602725a", sum := "6453fb0914ad598c110d2f2f30a778940e4f144d193bf4ea6a4f4476991926c2", checked := Try.checked }
namespace Rows
def none {H : Type} : Left H := { results := [], args := [] }

/-- 'zzlaws_internal_service_b1.FnPastStringWhole': WHATEVER THE INPUT: true; the input reads as it did. -/
def fnPastStringWholeSpec : ChangeSpec := { name := "fnPastStringWhole", fn := fun _ => fun
  | [d1, d2] => { results := [.lit (.bool true)], args := [d1, d2] }
  | _ => none }
def fnPastStringWholeRow : OpenClaim := { program := "qxb6602725a", sum := "6453fb0914ad598c110d2f2f30a778940e4f144d193bf4ea6a4f4476991926c2", func := "example.com/doorwarden/doorwarden/zzlaws_internal_service_b1.FnPastStringWhole", spec := "fnPastStringWhole", apart := false }
def FnPastStringWholeSaid : Prop := fnPastStringWholeRow.holds Try.pinned (OpenSpec.ofChange fnPastStringWholeSpec)

/-- ITS FALSE NEIGHBOUR: 'it returns false'. Refute it at one input. -/
def fnPastStringWholeWrong : ChangeSpec := { name := "fnPastStringWhole", fn := fun _ => fun
  | [d1, d2] => { results := [.lit (.bool false)], args := [d1, d2] }
  | _ => none }
def FnPastStringWholeWrongFalsely : Prop := fnPastStringWholeRow.holds Try.pinned (OpenSpec.ofChange fnPastStringWholeWrong)

/-- 'zzlaws_internal_service_b1.FnPastStringRoundTrip': WHATEVER THE INPUT: true; the input reads as it did. -/
def fnPastStringRoundTripSpec : ChangeSpec := { name := "fnPastStringRoundTrip", fn := fun _ => fun
  | [d1, d2, d3] => { results := [.lit (.bool true)], args := [d1, d2, d3] }
  | _ => none }
def fnPastStringRoundTripRow : OpenClaim := { program := "qxb6602725a", sum := "6453fb0914ad598c110d2f2f30a778940e4f144d193bf4ea6a4f4476991926c2", func := "example.com/doorwarden/doorwarden/zzlaws_internal_service_b1.FnPastStringRoundTrip", spec := "fnPastStringRoundTrip", apart := false }
def FnPastStringRoundTripSaid : Prop := fnPastStringRoundTripRow.holds Try.pinned (OpenSpec.ofChange fnPastStringRoundTripSpec)

/-- ITS FALSE NEIGHBOUR: 'it returns false'. Refute it at one input. -/
def fnPastStringRoundTripWrong : ChangeSpec := { name := "fnPastStringRoundTrip", fn := fun _ => fun
  | [d1, d2, d3] => { results := [.lit (.bool false)], args := [d1, d2, d3] }
  | _ => none }
def FnPastStringRoundTripWrongFalsely : Prop := fnPastStringRoundTripRow.holds Try.pinned (OpenSpec.ofChange fnPastStringRoundTripWrong)

/-- 'zzlaws_internal_service_b1.FnPastNestedWhole': WHATEVER THE INPUT: true; the input reads as it did. -/
def fnPastNestedWholeSpec : ChangeSpec := { name := "fnPastNestedWhole", fn := fun _ => fun
  | [d1, d2] => { results := [.lit (.bool true)], args := [d1, d2] }
  | _ => none }
def fnPastNestedWholeRow : OpenClaim := { program := "qxb6602725a", sum := "6453fb0914ad598c110d2f2f30a778940e4f144d193bf4ea6a4f4476991926c2", func := "example.com/doorwarden/doorwarden/zzlaws_internal_service_b1.FnPastNestedWhole", spec := "fnPastNestedWhole", apart := false }
def FnPastNestedWholeSaid : Prop := fnPastNestedWholeRow.holds Try.pinned (OpenSpec.ofChange fnPastNestedWholeSpec)

/-- ITS FALSE NEIGHBOUR: 'it returns false'. Refute it at one input. -/
def fnPastNestedWholeWrong : ChangeSpec := { name := "fnPastNestedWhole", fn := fun _ => fun
  | [d1, d2] => { results := [.lit (.bool false)], args := [d1, d2] }
  | _ => none }
def FnPastNestedWholeWrongFalsely : Prop := fnPastNestedWholeRow.holds Try.pinned (OpenSpec.ofChange fnPastNestedWholeWrong)

/-- 'zzlaws_internal_service_b1.FnPastNestedLocal': WHATEVER THE INPUT: true; the input reads as it did. -/
def fnPastNestedLocalSpec : ChangeSpec := { name := "fnPastNestedLocal", fn := fun _ => fun
  | [d1, d2, d3, d4] => { results := [.lit (.bool true)], args := [d1, d2, d3, d4] }
  | _ => none }
def fnPastNestedLocalRow : OpenClaim := { program := "qxb6602725a", sum := "6453fb0914ad598c110d2f2f30a778940e4f144d193bf4ea6a4f4476991926c2", func := "example.com/doorwarden/doorwarden/zzlaws_internal_service_b1.FnPastNestedLocal", spec := "fnPastNestedLocal", apart := false }
def FnPastNestedLocalSaid : Prop := fnPastNestedLocalRow.holds Try.pinned (OpenSpec.ofChange fnPastNestedLocalSpec)

/-- ITS FALSE NEIGHBOUR: 'it returns false'. Refute it at one input. -/
def fnPastNestedLocalWrong : ChangeSpec := { name := "fnPastNestedLocal", fn := fun _ => fun
  | [d1, d2, d3, d4] => { results := [.lit (.bool false)], args := [d1, d2, d3, d4] }
  | _ => none }
def FnPastNestedLocalWrongFalsely : Prop := fnPastNestedLocalRow.holds Try.pinned (OpenSpec.ofChange fnPastNestedLocalWrong)

end Rows
end Go.Proofs.Qxb6602725a
