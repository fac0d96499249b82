/-
  No cell of these rows narrows 'for every input' (looked for: loops, veiled, ifaces, maps, wideKeys, modest, calm, conditions, laid).
  DERIVED. THE GIVEN ROWS OF THIS SEAT. 5 by the template 'for every input the law returns true; each argument reads behind the call as it read before'; 0 by the template 'total and deterministic' (their statements: Qxb6602204aTotals.lean).
  GIVEN WITH THE SEED: the statements are not yours to turn. If you find one false, say at which input.
  Laid BY PROGRAM, IN A SANDBOX (cutbox-rows.mjs): the forced cells as the released guide's own fill.sh prints them over the translation a35b9f99a7d71084… (all of the seat's roots in one cut). By AI agents, Wed Nov 11 2026. No macro, syntax, notation, axiom, sorry.
-/
import Derived.Test.Qxb6602204aChecked
import GoSem.Claim
import GoSem.ClaimJoined
import GoSem.ClaimMapViews
import Derived.JoinedTies
import Derived.KernelRfl
namespace Go.Proofs.Qxb6602204a
/- THE CELL 'sum', in the pinned program and in every row, IS THE sha256 OF THE DUMP (.gsa) THAT Qxb6602204aProg.lean LOADS. Nothing in Lean hashes anything: it is a label: what it is worth is what the hold of that sum in a sandbox is worth. -/
noncomputable def Try.pinned : Pinned := { name := "qxb6602204a", sum := "a35b9f99a7d710848011e9486d62bc482b67ad9d6a7d2b0be004c230e7ea32c2", checked := Try.checked }
namespace Rows
def none {H : Type} : Left H := { results := [], args := [] }

/-- 'zzlaws_internal_history_b1.FnSameTreeMatchesContentClasses': WHATEVER THE INPUT: true; the input reads as it did. -/
def fnSameTreeMatchesContentClassesSpec : ChangeSpec := { name := "fnSameTreeMatchesContentClasses", fn := fun _ => fun
  | [d1, d2, d3, d4, d5, d6] => { results := [.lit (.bool true)], args := [d1, d2, d3, d4, d5, d6] }
  | _ => none }
def fnSameTreeMatchesContentClassesRow : OpenClaim := { program := "qxb6602204a", sum := "a35b9f99a7d710848011e9486d62bc482b67ad9d6a7d2b0be004c230e7ea32c2", func := "example.com/ironquill/ironquill/zzlaws_internal_history_b1.FnSameTreeMatchesContentClasses", spec := "fnSameTreeMatchesContentClasses", recurses := true, apart := false }
def FnSameTreeMatchesContentClassesSaid : Prop := fnSameTreeMatchesContentClassesRow.holds Try.pinned (OpenSpec.ofChange fnSameTreeMatchesContentClassesSpec)

/-- ITS FALSE NEIGHBOUR: 'it returns false'. Refute it at one input. -/
def fnSameTreeMatchesContentClassesWrong : ChangeSpec := { name := "fnSameTreeMatchesContentClasses", fn := fun _ => fun
  | [d1, d2, d3, d4, d5, d6] => { results := [.lit (.bool false)], args := [d1, d2, d3, d4, d5, d6] }
  | _ => none }
def FnSameTreeMatchesContentClassesWrongFalsely : Prop := fnSameTreeMatchesContentClassesRow.holds Try.pinned (OpenSpec.ofChange fnSameTreeMatchesContentClassesWrong)

/-- 'zzlaws_internal_history_b1.FnSameTreeAgreesWithLookup': WHATEVER THE INPUT: true; the input reads as it did. -/
def fnSameTreeAgreesWithLookupSpec : ChangeSpec := { name := "fnSameTreeAgreesWithLookup", fn := fun _ => fun
  | [d1, d2, d3, d4, d5, d6, d7] => { results := [.lit (.bool true)], args := [d1, d2, d3, d4, d5, d6, d7] }
  | _ => none }
def fnSameTreeAgreesWithLookupRow : OpenClaim := { program := "qxb6602204a", sum := "a35b9f99a7d710848011e9486d62bc482b67ad9d6a7d2b0be004c230e7ea32c2", func := "example.com/ironquill/ironquill/zzlaws_internal_history_b1.FnSameTreeAgreesWithLookup", spec := "fnSameTreeAgreesWithLookup", recurses := true, apart := false }
def FnSameTreeAgreesWithLookupSaid : Prop := fnSameTreeAgreesWithLookupRow.holds Try.pinned (OpenSpec.ofChange fnSameTreeAgreesWithLookupSpec)

/-- ITS FALSE NEIGHBOUR: 'it returns false'. Refute it at one input. -/
def fnSameTreeAgreesWithLookupWrong : ChangeSpec := { name := "fnSameTreeAgreesWithLookup", fn := fun _ => fun
  | [d1, d2, d3, d4, d5, d6, d7] => { results := [.lit (.bool false)], args := [d1, d2, d3, d4, d5, d6, d7] }
  | _ => none }
def FnSameTreeAgreesWithLookupWrongFalsely : Prop := fnSameTreeAgreesWithLookupRow.holds Try.pinned (OpenSpec.ofChange fnSameTreeAgreesWithLookupWrong)

/-- 'zzlaws_internal_history_b1.FnSameTreeIsAnEquivalence': WHATEVER THE INPUT: true; the input reads as it did. -/
def fnSameTreeIsAnEquivalenceSpec : ChangeSpec := { name := "fnSameTreeIsAnEquivalence", fn := fun _ => fun
  | [d1, d2, d3, d4, d5, d6, d7] => { results := [.lit (.bool true)], args := [d1, d2, d3, d4, d5, d6, d7] }
  | _ => none }
def fnSameTreeIsAnEquivalenceRow : OpenClaim := { program := "qxb6602204a", sum := "a35b9f99a7d710848011e9486d62bc482b67ad9d6a7d2b0be004c230e7ea32c2", func := "example.com/ironquill/ironquill/zzlaws_internal_history_b1.FnSameTreeIsAnEquivalence", spec := "fnSameTreeIsAnEquivalence", recurses := true, apart := false }
def FnSameTreeIsAnEquivalenceSaid : Prop := fnSameTreeIsAnEquivalenceRow.holds Try.pinned (OpenSpec.ofChange fnSameTreeIsAnEquivalenceSpec)

/-- ITS FALSE NEIGHBOUR: 'it returns false'. Refute it at one input. -/
def fnSameTreeIsAnEquivalenceWrong : ChangeSpec := { name := "fnSameTreeIsAnEquivalence", fn := fun _ => fun
  | [d1, d2, d3, d4, d5, d6, d7] => { results := [.lit (.bool false)], args := [d1, d2, d3, d4, d5, d6, d7] }
  | _ => none }
def FnSameTreeIsAnEquivalenceWrongFalsely : Prop := fnSameTreeIsAnEquivalenceRow.holds Try.pinned (OpenSpec.ofChange fnSameTreeIsAnEquivalenceWrong)

/-- 'zzlaws_internal_history_b1.FnPlacementHashStatesOrderAndRootsFree': WHATEVER THE INPUT: true; the input reads as it did. -/
def fnPlacementHashStatesOrderAndRootsFreeSpec : ChangeSpec := { name := "fnPlacementHashStatesOrderAndRootsFree", fn := fun _ => fun
  | [d1, d2, d3, d4] => { results := [.lit (.bool true)], args := [d1, d2, d3, d4] }
  | _ => none }
def fnPlacementHashStatesOrderAndRootsFreeRow : OpenClaim := { program := "qxb6602204a", sum := "a35b9f99a7d710848011e9486d62bc482b67ad9d6a7d2b0be004c230e7ea32c2", func := "example.com/ironquill/ironquill/zzlaws_internal_history_b1.FnPlacementHashStatesOrderAndRootsFree", spec := "fnPlacementHashStatesOrderAndRootsFree", apart := false }
def FnPlacementHashStatesOrderAndRootsFreeSaid : Prop := fnPlacementHashStatesOrderAndRootsFreeRow.holds Try.pinned (OpenSpec.ofChange fnPlacementHashStatesOrderAndRootsFreeSpec)

/-- ITS FALSE NEIGHBOUR: 'it returns false'. Refute it at one input. -/
def fnPlacementHashStatesOrderAndRootsFreeWrong : ChangeSpec := { name := "fnPlacementHashStatesOrderAndRootsFree", fn := fun _ => fun
  | [d1, d2, d3, d4] => { results := [.lit (.bool false)], args := [d1, d2, d3, d4] }
  | _ => none }
def FnPlacementHashStatesOrderAndRootsFreeWrongFalsely : Prop := fnPlacementHashStatesOrderAndRootsFreeRow.holds Try.pinned (OpenSpec.ofChange fnPlacementHashStatesOrderAndRootsFreeWrong)

/-- 'zzlaws_internal_history_b1.FnPlacementHashOneChangeMovesIt': WHATEVER THE INPUT: true; the input reads as it did. -/
def fnPlacementHashOneChangeMovesItSpec : ChangeSpec := { name := "fnPlacementHashOneChangeMovesIt", fn := fun _ => fun
  | [d1, d2, d3, d4, d5, d6, d7, d8, d9] => { results := [.lit (.bool true)], args := [d1, d2, d3, d4, d5, d6, d7, d8, d9] }
  | _ => none }
def fnPlacementHashOneChangeMovesItRow : OpenClaim := { program := "qxb6602204a", sum := "a35b9f99a7d710848011e9486d62bc482b67ad9d6a7d2b0be004c230e7ea32c2", func := "example.com/ironquill/ironquill/zzlaws_internal_history_b1.FnPlacementHashOneChangeMovesIt", spec := "fnPlacementHashOneChangeMovesIt", apart := false }
def FnPlacementHashOneChangeMovesItSaid : Prop := fnPlacementHashOneChangeMovesItRow.holds Try.pinned (OpenSpec.ofChange fnPlacementHashOneChangeMovesItSpec)

/-- ITS FALSE NEIGHBOUR: 'it returns false'. Refute it at one input. -/
def fnPlacementHashOneChangeMovesItWrong : ChangeSpec := { name := "fnPlacementHashOneChangeMovesIt", fn := fun _ => fun
  | [d1, d2, d3, d4, d5, d6, d7, d8, d9] => { results := [.lit (.bool false)], args := [d1, d2, d3, d4, d5, d6, d7, d8, d9] }
  | _ => none }
def FnPlacementHashOneChangeMovesItWrongFalsely : Prop := fnPlacementHashOneChangeMovesItRow.holds Try.pinned (OpenSpec.ofChange fnPlacementHashOneChangeMovesItWrong)

end Rows
end Go.Proofs.Qxb6602204a
