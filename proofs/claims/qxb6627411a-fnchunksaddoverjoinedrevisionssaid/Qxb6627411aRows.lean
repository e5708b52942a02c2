/-
  No cell of these rows narrows 'for every input' (looked for: loops, veiled, ifaces, maps, wideKeys, modest, calm, conditions, laid).
  DERIVED. THE GIVEN ROWS OF THIS SEAT. 2 by the template 'for every input the law returns true; each argument reads behind the call as it read before'; 0 by the template 'total and deterministic' (their statements: Qxb6627411aTotals.lean).
  GIVEN WITH THE SEED: the statements are not yours to turn. If you find one false, say at which input.
  Laid BY PROGRAM, IN A SANDBOX (cutbox-rows.mjs): the forced cells as the released guide's own fill.sh prints them over the translation 9b0d149c6ee6c340… (all of the seat's roots in one cut). By AI agents, Wed Nov 11 2026. No macro, syntax, notation, axiom, sorry.
-/
import Derived.Test.Qxb6627411aChecked
import GoSem.Claim
import GoSem.ClaimJoined
import GoSem.ClaimMapViews
import Derived.JoinedTies
import Derived.KernelRfl
namespace Go.Proofs.Qxb6627411a
/- THE CELL 'sum', in the pinned program and in every row, IS THE sha256 OF THE DUMP (.gsa) THAT Qxb6627411aProg.lean LOADS. Nothing in Lean hashes anything: it is a label: what it is worth is what the hold of that sum in a sandbox is worth. -/
noncomputable def Try.pinned : Pinned := { name := "qxb6627411a", sum := "9b0d149c6ee6c3402535bbf07ed22b4b8c455b05215c1be2f40953e3a7882e51", checked := Try.checked }
namespace Rows
def none {H : Type} : Left H := { results := [], args := [] }

/-- 'zzlaws_pkg_bytestream_b1.FnChunksAddOverJoinedRevisions': WHATEVER THE INPUT: true; the input reads as it did. -/
def fnChunksAddOverJoinedRevisionsSpec : ChangeSpec := { name := "fnChunksAddOverJoinedRevisions", fn := fun _ => fun
  | [d1, d2] => { results := [.lit (.bool true)], args := [d1, d2] }
  | _ => none }
def fnChunksAddOverJoinedRevisionsRow : OpenClaim := { program := "qxb6627411a", sum := "9b0d149c6ee6c3402535bbf07ed22b4b8c455b05215c1be2f40953e3a7882e51", func := "example.com/cellwright/cellwright/zzlaws_pkg_bytestream_b1.FnChunksAddOverJoinedRevisions", spec := "fnChunksAddOverJoinedRevisions", apart := false }
def FnChunksAddOverJoinedRevisionsSaid : Prop := fnChunksAddOverJoinedRevisionsRow.holds Try.pinned (OpenSpec.ofChange fnChunksAddOverJoinedRevisionsSpec)

/-- ITS FALSE NEIGHBOUR: 'it returns false'. Refute it at one input. -/
def fnChunksAddOverJoinedRevisionsWrong : ChangeSpec := { name := "fnChunksAddOverJoinedRevisions", fn := fun _ => fun
  | [d1, d2] => { results := [.lit (.bool false)], args := [d1, d2] }
  | _ => none }
def FnChunksAddOverJoinedRevisionsWrongFalsely : Prop := fnChunksAddOverJoinedRevisionsRow.holds Try.pinned (OpenSpec.ofChange fnChunksAddOverJoinedRevisionsWrong)

/-- 'zzlaws_pkg_bytestream_b1.FnChunksRunWrapKeepsChunkWrapIsOne': WHATEVER THE INPUT: true; the input reads as it did. -/
def fnChunksRunWrapKeepsChunkWrapIsOneSpec : ChangeSpec := { name := "fnChunksRunWrapKeepsChunkWrapIsOne", fn := fun _ => fun
  | [d] => { results := [.lit (.bool true)], args := [d] }
  | _ => none }
def fnChunksRunWrapKeepsChunkWrapIsOneRow : OpenClaim := { program := "qxb6627411a", sum := "9b0d149c6ee6c3402535bbf07ed22b4b8c455b05215c1be2f40953e3a7882e51", func := "example.com/cellwright/cellwright/zzlaws_pkg_bytestream_b1.FnChunksRunWrapKeepsChunkWrapIsOne", spec := "fnChunksRunWrapKeepsChunkWrapIsOne", apart := false }
def FnChunksRunWrapKeepsChunkWrapIsOneSaid : Prop := fnChunksRunWrapKeepsChunkWrapIsOneRow.holds Try.pinned (OpenSpec.ofChange fnChunksRunWrapKeepsChunkWrapIsOneSpec)

/-- ITS FALSE NEIGHBOUR: 'it returns false'. Refute it at one input. -/
def fnChunksRunWrapKeepsChunkWrapIsOneWrong : ChangeSpec := { name := "fnChunksRunWrapKeepsChunkWrapIsOne", fn := fun _ => fun
  | [d] => { results := [.lit (.bool false)], args := [d] }
  | _ => none }
def FnChunksRunWrapKeepsChunkWrapIsOneWrongFalsely : Prop := fnChunksRunWrapKeepsChunkWrapIsOneRow.holds Try.pinned (OpenSpec.ofChange fnChunksRunWrapKeepsChunkWrapIsOneWrong)

end Rows
end Go.Proofs.Qxb6627411a
