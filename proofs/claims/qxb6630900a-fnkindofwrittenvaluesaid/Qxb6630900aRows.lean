/-
  No cell of these rows narrows 'for every input' (looked for: loops, veiled, ifaces, maps, wideKeys, modest, calm, conditions, laid).
  DERIVED. THE GIVEN ROWS OF THIS SEAT. 2 by the template 'for every input the law returns true; each argument reads behind the call as it read before'; 0 by the template 'total and deterministic' (their statements: Qxb6630900aTotals.lean).
  GIVEN WITH THE SEED: the statements are not yours to turn. If you find one false, say at which input.
  Laid BY PROGRAM, IN A SANDBOX (cutbox-rows.mjs): the forced cells as the released guide's own fill.sh prints them over the translation cd90a0d60c6e54a7… (all of the seat's roots in one cut). By AI agents, Wed Nov 11 2026. No macro, syntax, notation, axiom, sorry.
-/
import Derived.Test.Qxb6630900aChecked
import GoSem.Claim
import GoSem.ClaimJoined
import GoSem.ClaimMapViews
import Derived.JoinedTies
import Derived.KernelRfl
namespace Go.Proofs.Qxb6630900a
/- THE CELL 'sum', in the pinned program and in every row, IS THE sha256 OF THE DUMP (.gsa) THAT Qxb6630900aProg.lean LOADS. Nothing in Lean hashes anything: it is a label: what it is worth is what the hold of that sum in a sandbox is worth. -/
noncomputable def Try.pinned : Pinned := { name := "qxb6630900a", sum := "cd90a0d60c6e54a7ca18980ad05d6a00e00a0316d7fc79077abe31a3eaa3d701", checked := Try.checked }
namespace Rows
def none {H : Type} : Left H := { results := [], args := [] }

/-- 'zzlaws_document_b1.FnKindCutAgreement': WHATEVER THE INPUT: true; the input reads as it did. -/
def fnKindCutAgreementSpec : ChangeSpec := { name := "fnKindCutAgreement", fn := fun _ => fun
  | [d1, d2] => { results := [.lit (.bool true)], args := [d1, d2] }
  | _ => none }
def fnKindCutAgreementRow : OpenClaim := { program := "qxb6630900a", sum := "cd90a0d60c6e54a7ca18980ad05d6a00e00a0316d7fc79077abe31a3eaa3d701", func := "example.com/operant/operant/zzlaws_document_b1.FnKindCutAgreement", spec := "fnKindCutAgreement", apart := false }
def FnKindCutAgreementSaid : Prop := fnKindCutAgreementRow.holds Try.pinned (OpenSpec.ofChange fnKindCutAgreementSpec)

/-- ITS FALSE NEIGHBOUR: 'it returns false'. Refute it at one input. -/
def fnKindCutAgreementWrong : ChangeSpec := { name := "fnKindCutAgreement", fn := fun _ => fun
  | [d1, d2] => { results := [.lit (.bool false)], args := [d1, d2] }
  | _ => none }
def FnKindCutAgreementWrongFalsely : Prop := fnKindCutAgreementRow.holds Try.pinned (OpenSpec.ofChange fnKindCutAgreementWrong)

/-- 'zzlaws_document_b1.FnKindOfWrittenValue': WHATEVER THE INPUT: true; the input reads as it did. -/
def fnKindOfWrittenValueSpec : ChangeSpec := { name := "fnKindOfWrittenValue", fn := fun _ => fun
  | [d1, d2] => { results := [.lit (.bool true)], args := [d1, d2] }
  | _ => none }
def fnKindOfWrittenValueRow : OpenClaim := { program := "qxb6630900a", sum := "cd90a0d60c6e54a7ca18980ad05d6a00e00a0316d7fc79077abe31a3eaa3d701", func := "example.com/operant/operant/zzlaws_document_b1.FnKindOfWrittenValue", spec := "fnKindOfWrittenValue", apart := false }
def FnKindOfWrittenValueSaid : Prop := fnKindOfWrittenValueRow.holds Try.pinned (OpenSpec.ofChange fnKindOfWrittenValueSpec)

/-- ITS FALSE NEIGHBOUR: 'it returns false'. Refute it at one input. -/
def fnKindOfWrittenValueWrong : ChangeSpec := { name := "fnKindOfWrittenValue", fn := fun _ => fun
  | [d1, d2] => { results := [.lit (.bool false)], args := [d1, d2] }
  | _ => none }
def FnKindOfWrittenValueWrongFalsely : Prop := fnKindOfWrittenValueRow.holds Try.pinned (OpenSpec.ofChange fnKindOfWrittenValueWrong)

end Rows
end Go.Proofs.Qxb6630900a
