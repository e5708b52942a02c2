/-
  DERIVED. GIVEN WITH THE SEED: THE CARDS: each row of Qxb6627460aFmtRows.lean that lists a variable, with what it lists TIED to the program's text (the seventh form; the later family's looks); each row that meets fmt, with fmt's text TOLD by the authors' own Lean function (tested against real Go, not proved from fmt's source: count such statements apart). THE CARD IS WHAT COUNTS. Prove the row's statement (the work); the ties are given (Qxb6627460aFmtTie.lean); close each card by the builder's one call (the guide's Derived/Test/ToyasCard.lean, 'card_holds'). Laid BY PROGRAM, IN A SANDBOX (cutbox-door.mjs). By AI agents, Wed Nov 11 2026. No macro, syntax, notation, axiom, sorry.
-/
import Derived.Test.Qxb6627460aFmtRows
import GoSem.ClaimSeven
namespace Go.Proofs.Qxb6627460aFmt
namespace Rows

/-- THE TOLD AND TIED CARD OF 'zzlaws_pkg_peerwire_b1.FnMetadataMessageWireFormat'. -/
def fnMetadataMessageWireFormatCard : Claim7 := { stood := { row := fnMetadataMessageWireFormatRow, standIns := [], harness := (true, "abd910ceba5ac72bebb5ed9cb1710a067fe9588b72b04829276f354271c3b661"), looks := true }, told := true, laidByText := true, laidKinds := [.data, .data, .data], laidTests := true, laidLooks := .later, goes := false }
def FnMetadataMessageWireFormatToldSaid : Prop := Claim7.holds Tryf.pinned (.plain (OpenSpec.ofChange fnMetadataMessageWireFormatSpec)) fnMetadataMessageWireFormatCard
/-- ITS FALSE NEIGHBOUR. Refute it at one input. -/
def FnMetadataMessageWireFormatToldWrongFalsely : Prop := Claim7.holds Tryf.pinned (.plain (OpenSpec.ofChange fnMetadataMessageWireFormatWrong)) fnMetadataMessageWireFormatCard

/-- THE TOLD AND TIED CARD OF 'zzlaws_pkg_peerwire_b1.FnMetadataMessageDataTrails'. -/
def fnMetadataMessageDataTrailsCard : Claim7 := { stood := { row := fnMetadataMessageDataTrailsRow, standIns := [], harness := (true, "abd910ceba5ac72bebb5ed9cb1710a067fe9588b72b04829276f354271c3b661"), looks := true }, told := true, laidByText := true, laidKinds := [.data, .data, .data], laidTests := true, laidLooks := .later, goes := false }
def FnMetadataMessageDataTrailsToldSaid : Prop := Claim7.holds Tryf.pinned (.plain (OpenSpec.ofChange fnMetadataMessageDataTrailsSpec)) fnMetadataMessageDataTrailsCard
/-- ITS FALSE NEIGHBOUR. Refute it at one input. -/
def FnMetadataMessageDataTrailsToldWrongFalsely : Prop := Claim7.holds Tryf.pinned (.plain (OpenSpec.ofChange fnMetadataMessageDataTrailsWrong)) fnMetadataMessageDataTrailsCard
end Rows
end Go.Proofs.Qxb6627460aFmt
