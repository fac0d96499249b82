/-
  No cell of these rows narrows 'for every input' (looked for: loops, veiled, ifaces, maps, wideKeys, modest, calm, conditions, laid).
  DERIVED. THE GIVEN ROWS OF THIS SEAT. 5 by the template 'for every input the law returns true; each argument reads behind the call as it read before'; 0 by the template 'total and deterministic' (their statements: Qxb6602161aTotals.lean).
  GIVEN WITH THE SEED: the statements are not yours to turn. If you find one false, say at which input.
  Laid BY PROGRAM, IN A SANDBOX (cutbox-rows.mjs): the forced cells as the released guide's own fill.sh prints them over the translation e96039292ed2ac0e… (all of the seat's roots in one cut). By AI agents, Wed Nov 11 2026. No macro, syntax, notation, axiom, sorry.
-/
import Derived.Test.Qxb6602161aChecked
import GoSem.Claim
import GoSem.ClaimJoined
import GoSem.ClaimMapViews
import Derived.JoinedTies
import Derived.KernelRfl
namespace Go.Proofs.Qxb6602161a
/- THE CELL 'sum', in the pinned program and in every row, IS THE sha256 OF THE DUMP (.gsa) THAT Qxb6602161aProg.lean LOADS. Nothing in Lean hashes anything: it is a label: what it is worth is what the hold of that sum in a sandbox is worth. -/
noncomputable def Try.pinned : Pinned := { name := "qxb6602161a", sum := "e96039292ed2ac0ee630652f860b73ab4fa70271b71391606cab971a68041696", checked := Try.checked }
namespace Rows
def none {H : Type} : Left H := { results := [], args := [] }

/-- 'zzlaws_pkg_policy_b1.FnKeptForReadsOnlyRemovalAndKeep': WHATEVER THE INPUT: true; the input reads as it did. -/
def fnKeptForReadsOnlyRemovalAndKeepSpec : ChangeSpec := { name := "fnKeptForReadsOnlyRemovalAndKeep", fn := fun _ => fun
  | [d1, d2, d3, d4, d5, d6, d7, d8, d9, d10, d11] => { results := [.lit (.bool true)], args := [d1, d2, d3, d4, d5, d6, d7, d8, d9, d10, d11] }
  | _ => none }
def fnKeptForReadsOnlyRemovalAndKeepRow : OpenClaim := { program := "qxb6602161a", sum := "e96039292ed2ac0ee630652f860b73ab4fa70271b71391606cab971a68041696", func := "example.com/gentle-deprecation/gentle-deprecation/zzlaws_pkg_policy_b1.FnKeptForReadsOnlyRemovalAndKeep", spec := "fnKeptForReadsOnlyRemovalAndKeep", apart := false }
def FnKeptForReadsOnlyRemovalAndKeepSaid : Prop := fnKeptForReadsOnlyRemovalAndKeepRow.holds Try.pinned (OpenSpec.ofChange fnKeptForReadsOnlyRemovalAndKeepSpec)

/-- ITS FALSE NEIGHBOUR: 'it returns false'. Refute it at one input. -/
def fnKeptForReadsOnlyRemovalAndKeepWrong : ChangeSpec := { name := "fnKeptForReadsOnlyRemovalAndKeep", fn := fun _ => fun
  | [d1, d2, d3, d4, d5, d6, d7, d8, d9, d10, d11] => { results := [.lit (.bool false)], args := [d1, d2, d3, d4, d5, d6, d7, d8, d9, d10, d11] }
  | _ => none }
def FnKeptForReadsOnlyRemovalAndKeepWrongFalsely : Prop := fnKeptForReadsOnlyRemovalAndKeepRow.holds Try.pinned (OpenSpec.ofChange fnKeptForReadsOnlyRemovalAndKeepWrong)

/-- 'zzlaws_pkg_policy_b1.FnKeptAfterIdempotent': WHATEVER THE INPUT: true; the input reads as it did. -/
def fnKeptAfterIdempotentSpec : ChangeSpec := { name := "fnKeptAfterIdempotent", fn := fun _ => fun
  | [d1, d2, d3, d4, d5, d6, d7, d8, d9, d10, d11, d12] => { results := [.lit (.bool true)], args := [d1, d2, d3, d4, d5, d6, d7, d8, d9, d10, d11, d12] }
  | _ => none }
def fnKeptAfterIdempotentRow : OpenClaim := { program := "qxb6602161a", sum := "e96039292ed2ac0ee630652f860b73ab4fa70271b71391606cab971a68041696", func := "example.com/gentle-deprecation/gentle-deprecation/zzlaws_pkg_policy_b1.FnKeptAfterIdempotent", spec := "fnKeptAfterIdempotent", apart := false }
def FnKeptAfterIdempotentSaid : Prop := fnKeptAfterIdempotentRow.holds Try.pinned (OpenSpec.ofChange fnKeptAfterIdempotentSpec)

/-- ITS FALSE NEIGHBOUR: 'it returns false'. Refute it at one input. -/
def fnKeptAfterIdempotentWrong : ChangeSpec := { name := "fnKeptAfterIdempotent", fn := fun _ => fun
  | [d1, d2, d3, d4, d5, d6, d7, d8, d9, d10, d11, d12] => { results := [.lit (.bool false)], args := [d1, d2, d3, d4, d5, d6, d7, d8, d9, d10, d11, d12] }
  | _ => none }
def FnKeptAfterIdempotentWrongFalsely : Prop := fnKeptAfterIdempotentRow.holds Try.pinned (OpenSpec.ofChange fnKeptAfterIdempotentWrong)

/-- 'zzlaws_pkg_policy_b1.FnKeptAfterAgreesWithKeptFor': WHATEVER THE INPUT: true; the input reads as it did. -/
def fnKeptAfterAgreesWithKeptForSpec : ChangeSpec := { name := "fnKeptAfterAgreesWithKeptFor", fn := fun _ => fun
  | [d1, d2, d3, d4, d5, d6, d7, d8, d9, d10, d11, d12] => { results := [.lit (.bool true)], args := [d1, d2, d3, d4, d5, d6, d7, d8, d9, d10, d11, d12] }
  | _ => none }
def fnKeptAfterAgreesWithKeptForRow : OpenClaim := { program := "qxb6602161a", sum := "e96039292ed2ac0ee630652f860b73ab4fa70271b71391606cab971a68041696", func := "example.com/gentle-deprecation/gentle-deprecation/zzlaws_pkg_policy_b1.FnKeptAfterAgreesWithKeptFor", spec := "fnKeptAfterAgreesWithKeptFor", apart := false }
def FnKeptAfterAgreesWithKeptForSaid : Prop := fnKeptAfterAgreesWithKeptForRow.holds Try.pinned (OpenSpec.ofChange fnKeptAfterAgreesWithKeptForSpec)

/-- ITS FALSE NEIGHBOUR: 'it returns false'. Refute it at one input. -/
def fnKeptAfterAgreesWithKeptForWrong : ChangeSpec := { name := "fnKeptAfterAgreesWithKeptFor", fn := fun _ => fun
  | [d1, d2, d3, d4, d5, d6, d7, d8, d9, d10, d11, d12] => { results := [.lit (.bool false)], args := [d1, d2, d3, d4, d5, d6, d7, d8, d9, d10, d11, d12] }
  | _ => none }
def FnKeptAfterAgreesWithKeptForWrongFalsely : Prop := fnKeptAfterAgreesWithKeptForRow.holds Try.pinned (OpenSpec.ofChange fnKeptAfterAgreesWithKeptForWrong)

/-- 'zzlaws_pkg_policy_b1.FnCurrentIsFreshEachCall': WHATEVER THE INPUT: true; the input reads as it did. -/
def fnCurrentIsFreshEachCallSpec : ChangeSpec := { name := "fnCurrentIsFreshEachCall", fn := fun _ => fun
  | [] => { results := [.lit (.bool true)], args := [] }
  | _ => none }
def fnCurrentIsFreshEachCallRow : OpenClaim := { program := "qxb6602161a", sum := "e96039292ed2ac0ee630652f860b73ab4fa70271b71391606cab971a68041696", func := "example.com/gentle-deprecation/gentle-deprecation/zzlaws_pkg_policy_b1.FnCurrentIsFreshEachCall", spec := "fnCurrentIsFreshEachCall", apart := false }
def FnCurrentIsFreshEachCallSaid : Prop := fnCurrentIsFreshEachCallRow.holds Try.pinned (OpenSpec.ofChange fnCurrentIsFreshEachCallSpec)

/-- ITS FALSE NEIGHBOUR: 'it returns false'. Refute it at one input. -/
def fnCurrentIsFreshEachCallWrong : ChangeSpec := { name := "fnCurrentIsFreshEachCall", fn := fun _ => fun
  | [] => { results := [.lit (.bool false)], args := [] }
  | _ => none }
def FnCurrentIsFreshEachCallWrongFalsely : Prop := fnCurrentIsFreshEachCallRow.holds Try.pinned (OpenSpec.ofChange fnCurrentIsFreshEachCallWrong)

/-- 'zzlaws_pkg_policy_b1.FnCurrentKeepsMoreStableLonger': WHATEVER THE INPUT: true; the input reads as it did. -/
def fnCurrentKeepsMoreStableLongerSpec : ChangeSpec := { name := "fnCurrentKeepsMoreStableLonger", fn := fun _ => fun
  | [] => { results := [.lit (.bool true)], args := [] }
  | _ => none }
def fnCurrentKeepsMoreStableLongerRow : OpenClaim := { program := "qxb6602161a", sum := "e96039292ed2ac0ee630652f860b73ab4fa70271b71391606cab971a68041696", func := "example.com/gentle-deprecation/gentle-deprecation/zzlaws_pkg_policy_b1.FnCurrentKeepsMoreStableLonger", spec := "fnCurrentKeepsMoreStableLonger", apart := false }
def FnCurrentKeepsMoreStableLongerSaid : Prop := fnCurrentKeepsMoreStableLongerRow.holds Try.pinned (OpenSpec.ofChange fnCurrentKeepsMoreStableLongerSpec)

/-- ITS FALSE NEIGHBOUR: 'it returns false'. Refute it at one input. -/
def fnCurrentKeepsMoreStableLongerWrong : ChangeSpec := { name := "fnCurrentKeepsMoreStableLonger", fn := fun _ => fun
  | [] => { results := [.lit (.bool false)], args := [] }
  | _ => none }
def FnCurrentKeepsMoreStableLongerWrongFalsely : Prop := fnCurrentKeepsMoreStableLongerRow.holds Try.pinned (OpenSpec.ofChange fnCurrentKeepsMoreStableLongerWrong)

end Rows
end Go.Proofs.Qxb6602161a
