/-
  No cell of these rows narrows 'for every input' (looked for: loops, veiled, ifaces, maps, wideKeys, modest, calm, conditions, laid).
  DERIVED. THE GIVEN ROWS OF THIS SEAT. 3 by the template 'for every input the law returns true; each argument reads behind the call as it read before'; 0 by the template 'total and deterministic' (their statements: Qxb6602197aTotals.lean).
  GIVEN WITH THE SEED: the statements are not yours to turn. If you find one false, say at which input.
  Laid BY PROGRAM, IN A SANDBOX (cutbox-rows.mjs): the forced cells as the released guide's own fill.sh prints them over the translation fb8c38aa7eff2860… (all of the seat's roots in one cut). By AI agents, Wed Nov 11 2026. No macro, syntax, notation, axiom, sorry.
-/
import Derived.Test.Qxb6602197aChecked
import GoSem.Claim
import GoSem.ClaimJoined
import GoSem.ClaimMapViews
import Derived.JoinedTies
import Derived.KernelRfl
namespace Go.Proofs.Qxb6602197a
/- THE CELL 'sum', in the pinned program and in every row, IS THE sha256 OF THE DUMP (.gsa) THAT Qxb6602197aProg.lean LOADS. Nothing in Lean hashes anything: it is a label: what it is worth is what the hold of that sum in a sandbox is worth. -/
noncomputable def Try.pinned : Pinned := { name := "qxb6602197a", sum := "fb8c38aa7eff2860e66b8b254ff7b6079160693a0374bb03378d8c70a1146666", checked := Try.checked }
namespace Rows
def none {H : Type} : Left H := { results := [], args := [] }

/-- 'zzlaws_internal_jsonscan_b1.FnHex4MatchesDigitModel': WHATEVER THE INPUT: true; the input reads as it did. -/
def fnHex4MatchesDigitModelSpec : ChangeSpec := { name := "fnHex4MatchesDigitModel", fn := fun _ => fun
  | [d] => { results := [.lit (.bool true)], args := [d] }
  | _ => none }
def fnHex4MatchesDigitModelRow : OpenClaim := { program := "qxb6602197a", sum := "fb8c38aa7eff2860e66b8b254ff7b6079160693a0374bb03378d8c70a1146666", func := "example.com/tidemark/tidemark/zzlaws_internal_jsonscan_b1.FnHex4MatchesDigitModel", spec := "fnHex4MatchesDigitModel", apart := false }
def FnHex4MatchesDigitModelSaid : Prop := fnHex4MatchesDigitModelRow.holds Try.pinned (OpenSpec.ofChange fnHex4MatchesDigitModelSpec)

/-- ITS FALSE NEIGHBOUR: 'it returns false'. Refute it at one input. -/
def fnHex4MatchesDigitModelWrong : ChangeSpec := { name := "fnHex4MatchesDigitModel", fn := fun _ => fun
  | [d] => { results := [.lit (.bool false)], args := [d] }
  | _ => none }
def FnHex4MatchesDigitModelWrongFalsely : Prop := fnHex4MatchesDigitModelRow.holds Try.pinned (OpenSpec.ofChange fnHex4MatchesDigitModelWrong)

/-- 'zzlaws_internal_jsonscan_b1.FnHex4EncodeThenDecode': WHATEVER THE INPUT: true; the input reads as it did. -/
def fnHex4EncodeThenDecodeSpec : ChangeSpec := { name := "fnHex4EncodeThenDecode", fn := fun _ => fun
  | [d1, d2, d3] => { results := [.lit (.bool true)], args := [d1, d2, d3] }
  | _ => none }
def fnHex4EncodeThenDecodeRow : OpenClaim := { program := "qxb6602197a", sum := "fb8c38aa7eff2860e66b8b254ff7b6079160693a0374bb03378d8c70a1146666", func := "example.com/tidemark/tidemark/zzlaws_internal_jsonscan_b1.FnHex4EncodeThenDecode", spec := "fnHex4EncodeThenDecode", apart := false }
def FnHex4EncodeThenDecodeSaid : Prop := fnHex4EncodeThenDecodeRow.holds Try.pinned (OpenSpec.ofChange fnHex4EncodeThenDecodeSpec)

/-- ITS FALSE NEIGHBOUR: 'it returns false'. Refute it at one input. -/
def fnHex4EncodeThenDecodeWrong : ChangeSpec := { name := "fnHex4EncodeThenDecode", fn := fun _ => fun
  | [d1, d2, d3] => { results := [.lit (.bool false)], args := [d1, d2, d3] }
  | _ => none }
def FnHex4EncodeThenDecodeWrongFalsely : Prop := fnHex4EncodeThenDecodeRow.holds Try.pinned (OpenSpec.ofChange fnHex4EncodeThenDecodeWrong)

/-- 'zzlaws_internal_jsonscan_b1.FnHex4RangeAndPrefixOnly': WHATEVER THE INPUT: true; the input reads as it did. -/
def fnHex4RangeAndPrefixOnlySpec : ChangeSpec := { name := "fnHex4RangeAndPrefixOnly", fn := fun _ => fun
  | [d] => { results := [.lit (.bool true)], args := [d] }
  | _ => none }
def fnHex4RangeAndPrefixOnlyRow : OpenClaim := { program := "qxb6602197a", sum := "fb8c38aa7eff2860e66b8b254ff7b6079160693a0374bb03378d8c70a1146666", func := "example.com/tidemark/tidemark/zzlaws_internal_jsonscan_b1.FnHex4RangeAndPrefixOnly", spec := "fnHex4RangeAndPrefixOnly", apart := false }
def FnHex4RangeAndPrefixOnlySaid : Prop := fnHex4RangeAndPrefixOnlyRow.holds Try.pinned (OpenSpec.ofChange fnHex4RangeAndPrefixOnlySpec)

/-- ITS FALSE NEIGHBOUR: 'it returns false'. Refute it at one input. -/
def fnHex4RangeAndPrefixOnlyWrong : ChangeSpec := { name := "fnHex4RangeAndPrefixOnly", fn := fun _ => fun
  | [d] => { results := [.lit (.bool false)], args := [d] }
  | _ => none }
def FnHex4RangeAndPrefixOnlyWrongFalsely : Prop := fnHex4RangeAndPrefixOnlyRow.holds Try.pinned (OpenSpec.ofChange fnHex4RangeAndPrefixOnlyWrong)

end Rows
end Go.Proofs.Qxb6602197a
