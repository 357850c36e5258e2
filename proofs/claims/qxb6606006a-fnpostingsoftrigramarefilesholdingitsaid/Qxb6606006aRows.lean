/-
  No cell of these rows narrows 'for every input' (looked for: loops, veiled, ifaces, maps, wideKeys, modest, calm, conditions, laid).
  DERIVED. THE GIVEN ROWS OF THIS SEAT. 3 by the template 'for every input the law returns true; each argument reads behind the call as it read before'; 0 by the template 'total and deterministic' (their statements: Qxb6606006aTotals.lean).
  GIVEN WITH THE SEED: the statements are not yours to turn. If you find one false, say at which input.
  Laid BY PROGRAM, IN A SANDBOX (cutbox-rows.mjs): the forced cells as the released guide's own fill.sh prints them over the translation 20cfd18213b51ed4… (all of the seat's roots in one cut). By AI agents, Wed Nov 11 2026. No macro, syntax, notation, axiom, sorry.
-/
import Derived.Test.Qxb6606006aChecked
import GoSem.Claim
import GoSem.ClaimJoined
import GoSem.ClaimMapViews
import Derived.JoinedTies
import Derived.KernelRfl
namespace Go.Proofs.Qxb6606006a
/- THE CELL 'sum', in the pinned program and in every row, IS THE sha256 OF THE DUMP (.gsa) THAT Qxb6606006aProg.lean LOADS. Nothing in Lean hashes anything: it is a label: what it is worth is what the hold of that sum in a sandbox is worth. -/
noncomputable def Try.pinned : Pinned := { name := "qxb6606006a", sum := "20cfd18213b51ed4f468bc3abcce6a7370e61d2a7d1bd2cb9a5aa39648b079a9", checked := Try.checked }
namespace Rows
def none {H : Type} : Left H := { results := [], args := [] }

/-- 'zzlaws_index_b1.FnPostingsOfTrigramAreFilesHoldingIt': WHATEVER THE INPUT: true; the input reads as it did. -/
def fnPostingsOfTrigramAreFilesHoldingItSpec : ChangeSpec := { name := "fnPostingsOfTrigramAreFilesHoldingIt", fn := fun _ => fun
  | [d1, d2, d3] => { results := [.lit (.bool true)], args := [d1, d2, d3] }
  | _ => none }
def fnPostingsOfTrigramAreFilesHoldingItRow : OpenClaim := { program := "qxb6606006a", sum := "20cfd18213b51ed4f468bc3abcce6a7370e61d2a7d1bd2cb9a5aa39648b079a9", func := "example.com/cairn/cairn/zzlaws_index_b1.FnPostingsOfTrigramAreFilesHoldingIt", spec := "fnPostingsOfTrigramAreFilesHoldingIt", apart := false }
def FnPostingsOfTrigramAreFilesHoldingItSaid : Prop := fnPostingsOfTrigramAreFilesHoldingItRow.holds Try.pinned (OpenSpec.ofChange fnPostingsOfTrigramAreFilesHoldingItSpec)

/-- ITS FALSE NEIGHBOUR: 'it returns false'. Refute it at one input. -/
def fnPostingsOfTrigramAreFilesHoldingItWrong : ChangeSpec := { name := "fnPostingsOfTrigramAreFilesHoldingIt", fn := fun _ => fun
  | [d1, d2, d3] => { results := [.lit (.bool false)], args := [d1, d2, d3] }
  | _ => none }
def FnPostingsOfTrigramAreFilesHoldingItWrongFalsely : Prop := fnPostingsOfTrigramAreFilesHoldingItRow.holds Try.pinned (OpenSpec.ofChange fnPostingsOfTrigramAreFilesHoldingItWrong)

/-- 'zzlaws_index_b1.FnNumberIsLittleEndianValue': WHATEVER THE INPUT: true; the input reads as it did. -/
def fnNumberIsLittleEndianValueSpec : ChangeSpec := { name := "fnNumberIsLittleEndianValue", fn := fun _ => fun
  | [d] => { results := [.lit (.bool true)], args := [d] }
  | _ => none }
def fnNumberIsLittleEndianValueRow : OpenClaim := { program := "qxb6606006a", sum := "20cfd18213b51ed4f468bc3abcce6a7370e61d2a7d1bd2cb9a5aa39648b079a9", func := "example.com/cairn/cairn/zzlaws_index_b1.FnNumberIsLittleEndianValue", spec := "fnNumberIsLittleEndianValue", named := ["encoding/binary.LittleEndian"], apart := false }
def FnNumberIsLittleEndianValueSaid : Prop := fnNumberIsLittleEndianValueRow.holds Try.pinned (OpenSpec.ofChange fnNumberIsLittleEndianValueSpec)

/-- ITS FALSE NEIGHBOUR: 'it returns false'. Refute it at one input. -/
def fnNumberIsLittleEndianValueWrong : ChangeSpec := { name := "fnNumberIsLittleEndianValue", fn := fun _ => fun
  | [d] => { results := [.lit (.bool false)], args := [d] }
  | _ => none }
def FnNumberIsLittleEndianValueWrongFalsely : Prop := fnNumberIsLittleEndianValueRow.holds Try.pinned (OpenSpec.ofChange fnNumberIsLittleEndianValueWrong)

/-- 'zzlaws_index_b1.FnNumberReadsBackWrittenNumber': WHATEVER THE INPUT: true; the input reads as it did. -/
def fnNumberReadsBackWrittenNumberSpec : ChangeSpec := { name := "fnNumberReadsBackWrittenNumber", fn := fun _ => fun
  | [d1, d2] => { results := [.lit (.bool true)], args := [d1, d2] }
  | _ => none }
def fnNumberReadsBackWrittenNumberRow : OpenClaim := { program := "qxb6606006a", sum := "20cfd18213b51ed4f468bc3abcce6a7370e61d2a7d1bd2cb9a5aa39648b079a9", func := "example.com/cairn/cairn/zzlaws_index_b1.FnNumberReadsBackWrittenNumber", spec := "fnNumberReadsBackWrittenNumber", named := ["encoding/binary.LittleEndian"], apart := false }
def FnNumberReadsBackWrittenNumberSaid : Prop := fnNumberReadsBackWrittenNumberRow.holds Try.pinned (OpenSpec.ofChange fnNumberReadsBackWrittenNumberSpec)

/-- ITS FALSE NEIGHBOUR: 'it returns false'. Refute it at one input. -/
def fnNumberReadsBackWrittenNumberWrong : ChangeSpec := { name := "fnNumberReadsBackWrittenNumber", fn := fun _ => fun
  | [d1, d2] => { results := [.lit (.bool false)], args := [d1, d2] }
  | _ => none }
def FnNumberReadsBackWrittenNumberWrongFalsely : Prop := fnNumberReadsBackWrittenNumberRow.holds Try.pinned (OpenSpec.ofChange fnNumberReadsBackWrittenNumberWrong)

end Rows
end Go.Proofs.Qxb6606006a
