/-
  No cell of these rows narrows 'for every input' (looked for: loops, veiled, ifaces, maps, wideKeys, modest, calm, conditions, laid).
  DERIVED. THE GIVEN ROWS OF THIS SEAT. 4 by the template 'for every input the law returns true; each argument reads behind the call as it read before'; 0 by the template 'total and deterministic' (their statements: Qxb6613739aTotals.lean).
  GIVEN WITH THE SEED: the statements are not yours to turn. If you find one false, say at which input.
  Laid BY PROGRAM, IN A SANDBOX (cutbox-rows.mjs): the forced cells as the released guide's own fill.sh prints them over the translation 01f1ed6311f3e922… (all of the seat's roots in one cut). By AI agents, Wed Nov 11 2026. No macro, syntax, notation, axiom, sorry.
-/
import Derived.Test.Qxb6613739aChecked
import GoSem.Claim
import GoSem.ClaimJoined
import GoSem.ClaimMapViews
import Derived.JoinedTies
import Derived.KernelRfl
namespace Go.Proofs.Qxb6613739a
/- THE CELL 'sum', in the pinned program and in every row, IS THE sha256 OF THE DUMP (.gsa) THAT Qxb6613739aProg.lean LOADS. Nothing in Lean hashes anything: it is a label: what it is worth is what the hold of that sum in a sandbox is worth. -/
noncomputable def Try.pinned : Pinned := { name := "qxb6613739a", sum := "01f1ed6311f3e922e77e3135676d5c9ef712d8e1ee5af10470062dab14d59efb", checked := Try.checked }
namespace Rows
def none {H : Type} : Left H := { results := [], args := [] }

/-- 'zzlaws_internal_rawjson_b1.FnWriterBoolWritesCommaJoinedWords': WHATEVER THE INPUT: true; the input reads as it did. -/
def fnWriterBoolWritesCommaJoinedWordsSpec : ChangeSpec := { name := "fnWriterBoolWritesCommaJoinedWords", fn := fun _ => fun
  | [d1, d2] => { results := [.lit (.bool true)], args := [d1, d2] }
  | _ => none }
def fnWriterBoolWritesCommaJoinedWordsRow : OpenClaim := { program := "qxb6613739a", sum := "01f1ed6311f3e922e77e3135676d5c9ef712d8e1ee5af10470062dab14d59efb", func := "example.com/koine/koine/zzlaws_internal_rawjson_b1.FnWriterBoolWritesCommaJoinedWords", spec := "fnWriterBoolWritesCommaJoinedWords", apart := false }
def FnWriterBoolWritesCommaJoinedWordsSaid : Prop := fnWriterBoolWritesCommaJoinedWordsRow.holds Try.pinned (OpenSpec.ofChange fnWriterBoolWritesCommaJoinedWordsSpec)

/-- ITS FALSE NEIGHBOUR: 'it returns false'. Refute it at one input. -/
def fnWriterBoolWritesCommaJoinedWordsWrong : ChangeSpec := { name := "fnWriterBoolWritesCommaJoinedWords", fn := fun _ => fun
  | [d1, d2] => { results := [.lit (.bool false)], args := [d1, d2] }
  | _ => none }
def FnWriterBoolWritesCommaJoinedWordsWrongFalsely : Prop := fnWriterBoolWritesCommaJoinedWordsRow.holds Try.pinned (OpenSpec.ofChange fnWriterBoolWritesCommaJoinedWordsWrong)

/-- 'zzlaws_internal_rawjson_b1.FnWriterBoolAgreesWithRawOfItsWord': WHATEVER THE INPUT: true; the input reads as it did. -/
def fnWriterBoolAgreesWithRawOfItsWordSpec : ChangeSpec := { name := "fnWriterBoolAgreesWithRawOfItsWord", fn := fun _ => fun
  | [d1, d2, d3] => { results := [.lit (.bool true)], args := [d1, d2, d3] }
  | _ => none }
def fnWriterBoolAgreesWithRawOfItsWordRow : OpenClaim := { program := "qxb6613739a", sum := "01f1ed6311f3e922e77e3135676d5c9ef712d8e1ee5af10470062dab14d59efb", func := "example.com/koine/koine/zzlaws_internal_rawjson_b1.FnWriterBoolAgreesWithRawOfItsWord", spec := "fnWriterBoolAgreesWithRawOfItsWord", apart := false }
def FnWriterBoolAgreesWithRawOfItsWordSaid : Prop := fnWriterBoolAgreesWithRawOfItsWordRow.holds Try.pinned (OpenSpec.ofChange fnWriterBoolAgreesWithRawOfItsWordSpec)

/-- ITS FALSE NEIGHBOUR: 'it returns false'. Refute it at one input. -/
def fnWriterBoolAgreesWithRawOfItsWordWrong : ChangeSpec := { name := "fnWriterBoolAgreesWithRawOfItsWord", fn := fun _ => fun
  | [d1, d2, d3] => { results := [.lit (.bool false)], args := [d1, d2, d3] }
  | _ => none }
def FnWriterBoolAgreesWithRawOfItsWordWrongFalsely : Prop := fnWriterBoolAgreesWithRawOfItsWordRow.holds Try.pinned (OpenSpec.ofChange fnWriterBoolAgreesWithRawOfItsWordWrong)

/-- 'zzlaws_internal_rawjson_b1.FnReaderLiteralAgreesAtAnySplit': WHATEVER THE INPUT: true; the input reads as it did. -/
def fnReaderLiteralAgreesAtAnySplitSpec : ChangeSpec := { name := "fnReaderLiteralAgreesAtAnySplit", fn := fun _ => fun
  | [d1, d2, d3] => { results := [.lit (.bool true)], args := [d1, d2, d3] }
  | _ => none }
def fnReaderLiteralAgreesAtAnySplitRow : OpenClaim := { program := "qxb6613739a", sum := "01f1ed6311f3e922e77e3135676d5c9ef712d8e1ee5af10470062dab14d59efb", func := "example.com/koine/koine/zzlaws_internal_rawjson_b1.FnReaderLiteralAgreesAtAnySplit", spec := "fnReaderLiteralAgreesAtAnySplit", apart := false }
def FnReaderLiteralAgreesAtAnySplitSaid : Prop := fnReaderLiteralAgreesAtAnySplitRow.holds Try.pinned (OpenSpec.ofChange fnReaderLiteralAgreesAtAnySplitSpec)

/-- ITS FALSE NEIGHBOUR: 'it returns false'. Refute it at one input. -/
def fnReaderLiteralAgreesAtAnySplitWrong : ChangeSpec := { name := "fnReaderLiteralAgreesAtAnySplit", fn := fun _ => fun
  | [d1, d2, d3] => { results := [.lit (.bool false)], args := [d1, d2, d3] }
  | _ => none }
def FnReaderLiteralAgreesAtAnySplitWrongFalsely : Prop := fnReaderLiteralAgreesAtAnySplitRow.holds Try.pinned (OpenSpec.ofChange fnReaderLiteralAgreesAtAnySplitWrong)

/-- 'zzlaws_internal_rawjson_b1.FnReaderLiteralReadsBackWriterBools': WHATEVER THE INPUT: true; the input reads as it did. -/
def fnReaderLiteralReadsBackWriterBoolsSpec : ChangeSpec := { name := "fnReaderLiteralReadsBackWriterBools", fn := fun _ => fun
  | [d] => { results := [.lit (.bool true)], args := [d] }
  | _ => none }
def fnReaderLiteralReadsBackWriterBoolsRow : OpenClaim := { program := "qxb6613739a", sum := "01f1ed6311f3e922e77e3135676d5c9ef712d8e1ee5af10470062dab14d59efb", func := "example.com/koine/koine/zzlaws_internal_rawjson_b1.FnReaderLiteralReadsBackWriterBools", spec := "fnReaderLiteralReadsBackWriterBools", apart := false }
def FnReaderLiteralReadsBackWriterBoolsSaid : Prop := fnReaderLiteralReadsBackWriterBoolsRow.holds Try.pinned (OpenSpec.ofChange fnReaderLiteralReadsBackWriterBoolsSpec)

/-- ITS FALSE NEIGHBOUR: 'it returns false'. Refute it at one input. -/
def fnReaderLiteralReadsBackWriterBoolsWrong : ChangeSpec := { name := "fnReaderLiteralReadsBackWriterBools", fn := fun _ => fun
  | [d] => { results := [.lit (.bool false)], args := [d] }
  | _ => none }
def FnReaderLiteralReadsBackWriterBoolsWrongFalsely : Prop := fnReaderLiteralReadsBackWriterBoolsRow.holds Try.pinned (OpenSpec.ofChange fnReaderLiteralReadsBackWriterBoolsWrong)

end Rows
end Go.Proofs.Qxb6613739a
