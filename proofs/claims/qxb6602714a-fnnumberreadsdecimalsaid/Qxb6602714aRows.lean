/-
  No cell of these rows narrows 'for every input' (looked for: loops, veiled, ifaces, maps, wideKeys, modest, calm, conditions, laid).
  DERIVED. THE GIVEN ROWS OF THIS SEAT. 5 by the template 'for every input the law returns true; each argument reads behind the call as it read before'; 0 by the template 'total and deterministic' (their statements: Qxb6602714aTotals.lean).
  GIVEN WITH THE SEED: the statements are not yours to turn. If you find one false, say at which input.
  Laid BY PROGRAM, IN A SANDBOX (cutbox-rows.mjs): the forced cells as the released guide's own fill.sh prints them over the translation cea9dbcc992d07ea… (all of the seat's roots in one cut). By AI agents, Wed Nov 11 2026. No macro, syntax, notation, axiom, sorry.
-/
import Derived.Test.Qxb6602714aChecked
import GoSem.Claim
import GoSem.ClaimJoined
import GoSem.ClaimMapViews
import Derived.JoinedTies
import Derived.KernelRfl
namespace Go.Proofs.Qxb6602714a
/- THE CELL 'sum', in the pinned program and in every row, IS THE sha256 OF THE DUMP (.gsa) THAT Qxb6602714aProg.lean LOADS. Nothing in Lean hashes anything: it is a label: what it is worth is what the hold of that sum in a sandbox is worth. -/
noncomputable def Try.pinned : Pinned := { name := "qxb6602714a", sum := "cea9dbcc992d07ea0a79e34e06b2b394a9b0c8146de6c933d167940107b38c66", checked := Try.checked }
namespace Rows
def none {H : Type} : Left H := { results := [], args := [] }

/-- 'zzlaws_api_b1.FnFitsMonotone': WHATEVER THE INPUT: true; the input reads as it did. -/
def fnFitsMonotoneSpec : ChangeSpec := { name := "fnFitsMonotone", fn := fun _ => fun
  | [d1, d2, d3, d4, d5] => { results := [.lit (.bool true)], args := [d1, d2, d3, d4, d5] }
  | _ => none }
def fnFitsMonotoneRow : OpenClaim := { program := "qxb6602714a", sum := "cea9dbcc992d07ea0a79e34e06b2b394a9b0c8146de6c933d167940107b38c66", func := "example.com/nuthatch/nuthatch/zzlaws_api_b1.FnFitsMonotone", spec := "fnFitsMonotone", inPlace := ["internal/bytealg.IndexByteString"], apart := false }
def FnFitsMonotoneSaid : Prop := fnFitsMonotoneRow.holds Try.pinned (OpenSpec.ofChange fnFitsMonotoneSpec)

/-- ITS FALSE NEIGHBOUR: 'it returns false'. Refute it at one input. -/
def fnFitsMonotoneWrong : ChangeSpec := { name := "fnFitsMonotone", fn := fun _ => fun
  | [d1, d2, d3, d4, d5] => { results := [.lit (.bool false)], args := [d1, d2, d3, d4, d5] }
  | _ => none }
def FnFitsMonotoneWrongFalsely : Prop := fnFitsMonotoneRow.holds Try.pinned (OpenSpec.ofChange fnFitsMonotoneWrong)

/-- 'zzlaws_api_b1.FnFitsConcat': WHATEVER THE INPUT: true; the input reads as it did. -/
def fnFitsConcatSpec : ChangeSpec := { name := "fnFitsConcat", fn := fun _ => fun
  | [d1, d2, d3, d4] => { results := [.lit (.bool true)], args := [d1, d2, d3, d4] }
  | _ => none }
def fnFitsConcatRow : OpenClaim := { program := "qxb6602714a", sum := "cea9dbcc992d07ea0a79e34e06b2b394a9b0c8146de6c933d167940107b38c66", func := "example.com/nuthatch/nuthatch/zzlaws_api_b1.FnFitsConcat", spec := "fnFitsConcat", inPlace := ["internal/bytealg.IndexByteString"], apart := false }
def FnFitsConcatSaid : Prop := fnFitsConcatRow.holds Try.pinned (OpenSpec.ofChange fnFitsConcatSpec)

/-- ITS FALSE NEIGHBOUR: 'it returns false'. Refute it at one input. -/
def fnFitsConcatWrong : ChangeSpec := { name := "fnFitsConcat", fn := fun _ => fun
  | [d1, d2, d3, d4] => { results := [.lit (.bool false)], args := [d1, d2, d3, d4] }
  | _ => none }
def FnFitsConcatWrongFalsely : Prop := fnFitsConcatRow.holds Try.pinned (OpenSpec.ofChange fnFitsConcatWrong)

/-- 'zzlaws_api_b1.FnNumberMatchesRightToLeft': WHATEVER THE INPUT: true; the input reads as it did. -/
def fnNumberMatchesRightToLeftSpec : ChangeSpec := { name := "fnNumberMatchesRightToLeft", fn := fun _ => fun
  | [d] => { results := [.lit (.bool true)], args := [d] }
  | _ => none }
def fnNumberMatchesRightToLeftRow : OpenClaim := { program := "qxb6602714a", sum := "cea9dbcc992d07ea0a79e34e06b2b394a9b0c8146de6c933d167940107b38c66", func := "example.com/nuthatch/nuthatch/zzlaws_api_b1.FnNumberMatchesRightToLeft", spec := "fnNumberMatchesRightToLeft", apart := false }
def FnNumberMatchesRightToLeftSaid : Prop := fnNumberMatchesRightToLeftRow.holds Try.pinned (OpenSpec.ofChange fnNumberMatchesRightToLeftSpec)

/-- ITS FALSE NEIGHBOUR: 'it returns false'. Refute it at one input. -/
def fnNumberMatchesRightToLeftWrong : ChangeSpec := { name := "fnNumberMatchesRightToLeft", fn := fun _ => fun
  | [d] => { results := [.lit (.bool false)], args := [d] }
  | _ => none }
def FnNumberMatchesRightToLeftWrongFalsely : Prop := fnNumberMatchesRightToLeftRow.holds Try.pinned (OpenSpec.ofChange fnNumberMatchesRightToLeftWrong)

/-- 'zzlaws_api_b1.FnNumberReadsDecimal': WHATEVER THE INPUT: true; the input reads as it did. -/
def fnNumberReadsDecimalSpec : ChangeSpec := { name := "fnNumberReadsDecimal", fn := fun _ => fun
  | [d] => { results := [.lit (.bool true)], args := [d] }
  | _ => none }
def fnNumberReadsDecimalRow : OpenClaim := { program := "qxb6602714a", sum := "cea9dbcc992d07ea0a79e34e06b2b394a9b0c8146de6c933d167940107b38c66", func := "example.com/nuthatch/nuthatch/zzlaws_api_b1.FnNumberReadsDecimal", spec := "fnNumberReadsDecimal", apart := false }
def FnNumberReadsDecimalSaid : Prop := fnNumberReadsDecimalRow.holds Try.pinned (OpenSpec.ofChange fnNumberReadsDecimalSpec)

/-- ITS FALSE NEIGHBOUR: 'it returns false'. Refute it at one input. -/
def fnNumberReadsDecimalWrong : ChangeSpec := { name := "fnNumberReadsDecimal", fn := fun _ => fun
  | [d] => { results := [.lit (.bool false)], args := [d] }
  | _ => none }
def FnNumberReadsDecimalWrongFalsely : Prop := fnNumberReadsDecimalRow.holds Try.pinned (OpenSpec.ofChange fnNumberReadsDecimalWrong)

/-- 'zzlaws_api_b1.FnNumberLeadingZeros': WHATEVER THE INPUT: true; the input reads as it did. -/
def fnNumberLeadingZerosSpec : ChangeSpec := { name := "fnNumberLeadingZeros", fn := fun _ => fun
  | [d1, d2] => { results := [.lit (.bool true)], args := [d1, d2] }
  | _ => none }
def fnNumberLeadingZerosRow : OpenClaim := { program := "qxb6602714a", sum := "cea9dbcc992d07ea0a79e34e06b2b394a9b0c8146de6c933d167940107b38c66", func := "example.com/nuthatch/nuthatch/zzlaws_api_b1.FnNumberLeadingZeros", spec := "fnNumberLeadingZeros", apart := false }
def FnNumberLeadingZerosSaid : Prop := fnNumberLeadingZerosRow.holds Try.pinned (OpenSpec.ofChange fnNumberLeadingZerosSpec)

/-- ITS FALSE NEIGHBOUR: 'it returns false'. Refute it at one input. -/
def fnNumberLeadingZerosWrong : ChangeSpec := { name := "fnNumberLeadingZeros", fn := fun _ => fun
  | [d1, d2] => { results := [.lit (.bool false)], args := [d1, d2] }
  | _ => none }
def FnNumberLeadingZerosWrongFalsely : Prop := fnNumberLeadingZerosRow.holds Try.pinned (OpenSpec.ofChange fnNumberLeadingZerosWrong)

end Rows
end Go.Proofs.Qxb6602714a
