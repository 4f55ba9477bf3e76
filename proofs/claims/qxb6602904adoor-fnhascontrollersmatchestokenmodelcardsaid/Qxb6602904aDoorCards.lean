/-
  DERIVED. GIVEN WITH THE SEED: THE CARDS: each row of Qxb6602904aDoorRows.lean that lists a variable, with what it lists TIED to the program's text (the seventh form; the later family's looks); each row that meets fmt, with fmt's text TOLD by the authors' own Lean function (tested against real Go, not proved from fmt's source: count such statements apart). THE CARD IS WHAT COUNTS. Prove the row's statement (the work); the ties are given (Qxb6602904aDoorTie.lean); close each card by the builder's one call (the guide's Derived/Test/ToyasCard.lean, 'card_holds'). Laid BY PROGRAM, IN A SANDBOX (cutbox-door.mjs). By AI agents, Wed Nov 11 2026. No macro, syntax, notation, axiom, sorry.
-/
import Derived.Test.Qxb6602904aDoorRows
import GoSem.ClaimSeven
namespace Go.Proofs.Qxb6602904aDoor
namespace Rows

/-- THE TIED CARD OF 'zzlaws_internal_cgroup_b1.FnUnescapeInvertsMountEscape'. -/
def fnUnescapeInvertsMountEscapeCard : Claim7 := { stood := { row := fnUnescapeInvertsMountEscapeRow, standIns := [], harness := (true, "615976a851f5406c1d6035c5e86e4db8051704d48a99220707d4b0fd70409e47"), looks := true }, kinds := [], alts := [], laidByText := true, laidKinds := [.data, .data, .data, .sentinel, .sentinel], laidTests := true, laidLooks := .later }
def FnUnescapeInvertsMountEscapeCardSaid : Prop := Claim7.holds Tryd.pinned (.plain (OpenSpec.ofChange fnUnescapeInvertsMountEscapeSpec)) fnUnescapeInvertsMountEscapeCard

/-- THE TIED CARD OF 'zzlaws_internal_cgroup_b1.FnUnescapeShrinksByThrees'. -/
def fnUnescapeShrinksByThreesCard : Claim7 := { stood := { row := fnUnescapeShrinksByThreesRow, standIns := [], harness := (true, "615976a851f5406c1d6035c5e86e4db8051704d48a99220707d4b0fd70409e47"), looks := true }, kinds := [], alts := [], laidByText := true, laidKinds := [.data, .data, .data, .sentinel, .sentinel], laidTests := true, laidLooks := .later }
def FnUnescapeShrinksByThreesCardSaid : Prop := Claim7.holds Tryd.pinned (.plain (OpenSpec.ofChange fnUnescapeShrinksByThreesSpec)) fnUnescapeShrinksByThreesCard

/-- THE TIED CARD OF 'zzlaws_internal_cgroup_b1.FnHasControllersMatchesTokenModel'. -/
def fnHasControllersMatchesTokenModelCard : Claim7 := { stood := { row := fnHasControllersMatchesTokenModelRow, standIns := [], harness := (true, "615976a851f5406c1d6035c5e86e4db8051704d48a99220707d4b0fd70409e47"), looks := true }, kinds := [], alts := [], laidByText := true, laidKinds := [.listed, .data], laidTests := true, laidLooks := .later }
def FnHasControllersMatchesTokenModelCardSaid : Prop := Claim7.holds Tryd.pinned (.plain (OpenSpec.ofChange fnHasControllersMatchesTokenModelSpec)) fnHasControllersMatchesTokenModelCard

/-- THE TIED CARD OF 'zzlaws_internal_cgroup_b1.FnHasControllersUnionOfLists'. -/
def fnHasControllersUnionOfListsCard : Claim7 := { stood := { row := fnHasControllersUnionOfListsRow, standIns := [], harness := (true, "615976a851f5406c1d6035c5e86e4db8051704d48a99220707d4b0fd70409e47"), looks := true }, kinds := [], alts := [], laidByText := true, laidKinds := [.listed, .data], laidTests := true, laidLooks := .later }
def FnHasControllersUnionOfListsCardSaid : Prop := Claim7.holds Tryd.pinned (.plain (OpenSpec.ofChange fnHasControllersUnionOfListsSpec)) fnHasControllersUnionOfListsCard
end Rows
end Go.Proofs.Qxb6602904aDoor
