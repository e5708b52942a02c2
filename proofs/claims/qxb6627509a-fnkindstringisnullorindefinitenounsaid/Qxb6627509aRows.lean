/-
  No cell of these rows narrows 'for every input' (looked for: loops, veiled, ifaces, maps, wideKeys, modest, calm, conditions, laid).
  DERIVED. THE GIVEN ROWS OF THIS SEAT. 2 by the template 'for every input the law returns true; each argument reads behind the call as it read before'; 0 by the template 'total and deterministic' (their statements: Qxb6627509aTotals.lean).
  GIVEN WITH THE SEED: the statements are not yours to turn. If you find one false, say at which input.
  Laid BY PROGRAM, IN A SANDBOX (cutbox-rows.mjs): the forced cells as the released guide's own fill.sh prints them over the translation 14613f125c2e7ae6… (all of the seat's roots in one cut). By AI agents, Wed Nov 11 2026. No macro, syntax, notation, axiom, sorry.
-/
import Derived.Test.Qxb6627509aChecked
import GoSem.Claim
import GoSem.ClaimJoined
import GoSem.ClaimMapViews
import Derived.JoinedTies
import Derived.KernelRfl
namespace Go.Proofs.Qxb6627509a
/- THE CELL 'sum', in the pinned program and in every row, IS THE sha256 OF THE DUMP (.gsa) THAT Qxb6627509aProg.lean LOADS. Nothing in Lean hashes anything: it is a label: what it is worth is what the hold of that sum in a sandbox is worth. -/
noncomputable def Try.pinned : Pinned := { name := "qxb6627509a", sum := "14613f125c2e7ae6f9ce6ecaf97f8c6ded33ef24423a50d8723c9a5ecce2dca4", checked := Try.checked }
namespace Rows
def none {H : Type} : Left H := { results := [], args := [] }

/-- 'zzlaws_pkg_canonjson_b1.FnKindStringSameNameExactlyWhenSameKindOrBothNumberLike': WHATEVER THE INPUT: true; the input reads as it did. -/
def fnKindStringSameNameExactlyWhenSameKindOrBothNumberLikeSpec : ChangeSpec := { name := "fnKindStringSameNameExactlyWhenSameKindOrBothNumberLike", fn := fun _ => fun
  | [d1, d2] => { results := [.lit (.bool true)], args := [d1, d2] }
  | _ => none }
def fnKindStringSameNameExactlyWhenSameKindOrBothNumberLikeRow : OpenClaim := { program := "qxb6627509a", sum := "14613f125c2e7ae6f9ce6ecaf97f8c6ded33ef24423a50d8723c9a5ecce2dca4", func := "example.com/holdfast/holdfast/zzlaws_pkg_canonjson_b1.FnKindStringSameNameExactlyWhenSameKindOrBothNumberLike", spec := "fnKindStringSameNameExactlyWhenSameKindOrBothNumberLike", apart := false }
def FnKindStringSameNameExactlyWhenSameKindOrBothNumberLikeSaid : Prop := fnKindStringSameNameExactlyWhenSameKindOrBothNumberLikeRow.holds Try.pinned (OpenSpec.ofChange fnKindStringSameNameExactlyWhenSameKindOrBothNumberLikeSpec)

/-- ITS FALSE NEIGHBOUR: 'it returns false'. Refute it at one input. -/
def fnKindStringSameNameExactlyWhenSameKindOrBothNumberLikeWrong : ChangeSpec := { name := "fnKindStringSameNameExactlyWhenSameKindOrBothNumberLike", fn := fun _ => fun
  | [d1, d2] => { results := [.lit (.bool false)], args := [d1, d2] }
  | _ => none }
def FnKindStringSameNameExactlyWhenSameKindOrBothNumberLikeWrongFalsely : Prop := fnKindStringSameNameExactlyWhenSameKindOrBothNumberLikeRow.holds Try.pinned (OpenSpec.ofChange fnKindStringSameNameExactlyWhenSameKindOrBothNumberLikeWrong)

/-- 'zzlaws_pkg_canonjson_b1.FnKindStringIsNullOrIndefiniteNoun': WHATEVER THE INPUT: true; the input reads as it did. -/
def fnKindStringIsNullOrIndefiniteNounSpec : ChangeSpec := { name := "fnKindStringIsNullOrIndefiniteNoun", fn := fun _ => fun
  | [d] => { results := [.lit (.bool true)], args := [d] }
  | _ => none }
def fnKindStringIsNullOrIndefiniteNounRow : OpenClaim := { program := "qxb6627509a", sum := "14613f125c2e7ae6f9ce6ecaf97f8c6ded33ef24423a50d8723c9a5ecce2dca4", func := "example.com/holdfast/holdfast/zzlaws_pkg_canonjson_b1.FnKindStringIsNullOrIndefiniteNoun", spec := "fnKindStringIsNullOrIndefiniteNoun", apart := false }
def FnKindStringIsNullOrIndefiniteNounSaid : Prop := fnKindStringIsNullOrIndefiniteNounRow.holds Try.pinned (OpenSpec.ofChange fnKindStringIsNullOrIndefiniteNounSpec)

/-- ITS FALSE NEIGHBOUR: 'it returns false'. Refute it at one input. -/
def fnKindStringIsNullOrIndefiniteNounWrong : ChangeSpec := { name := "fnKindStringIsNullOrIndefiniteNoun", fn := fun _ => fun
  | [d] => { results := [.lit (.bool false)], args := [d] }
  | _ => none }
def FnKindStringIsNullOrIndefiniteNounWrongFalsely : Prop := fnKindStringIsNullOrIndefiniteNounRow.holds Try.pinned (OpenSpec.ofChange fnKindStringIsNullOrIndefiniteNounWrong)

end Rows
end Go.Proofs.Qxb6627509a
