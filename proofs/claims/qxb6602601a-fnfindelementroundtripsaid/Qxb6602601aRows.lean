/-
  No cell of these rows narrows 'for every input' (looked for: loops, veiled, ifaces, maps, wideKeys, modest, calm, conditions, laid).
  DERIVED. THE GIVEN ROWS OF THIS SEAT. 2 by the template 'for every input the law returns true; each argument reads behind the call as it read before'; 0 by the template 'total and deterministic' (their statements: Qxb6602601aTotals.lean).
  GIVEN WITH THE SEED: the statements are not yours to turn. If you find one false, say at which input.
  Laid BY PROGRAM, IN A SANDBOX (cutbox-rows.mjs): the forced cells as the released guide's own fill.sh prints them over the translation bf72851f717d203d… (all of the seat's roots in one cut). By AI agents, Wed Nov 11 2026. No macro, syntax, notation, axiom, sorry.
-/
import Derived.Test.Qxb6602601aChecked
import GoSem.Claim
import GoSem.ClaimJoined
import GoSem.ClaimMapViews
import Derived.JoinedTies
import Derived.KernelRfl
namespace Go.Proofs.Qxb6602601a
/- THE CELL 'sum', in the pinned program and in every row, IS THE sha256 OF THE DUMP (.gsa) THAT Qxb6602601aProg.lean LOADS. Nothing in Lean hashes anything: it is a label: what it is worth is what the hold of that sum in a sandbox is worth. -/
noncomputable def Try.pinned : Pinned := { name := "qxb6602601a", sum := "bf72851f717d203d85809ecf55dff39c8af76cd09b49699dd3f28f119a5bfd13", checked := Try.checked }
namespace Rows
def none {H : Type} : Left H := { results := [], args := [] }

/-- 'zzlaws_splicing_b1.FnFindElementRoundTrip': WHATEVER THE INPUT: true; the input reads as it did. -/
def fnFindElementRoundTripSpec : ChangeSpec := { name := "fnFindElementRoundTrip", fn := fun _ => fun
  | [d1, d2, d3, d4] => { results := [.lit (.bool true)], args := [d1, d2, d3, d4] }
  | _ => none }
def fnFindElementRoundTripRow : OpenClaim := { program := "qxb6602601a", sum := "bf72851f717d203d85809ecf55dff39c8af76cd09b49699dd3f28f119a5bfd13", func := "example.com/splicewire/splicewire/zzlaws_splicing_b1.FnFindElementRoundTrip", spec := "fnFindElementRoundTrip", apart := false }
def FnFindElementRoundTripSaid : Prop := fnFindElementRoundTripRow.holds Try.pinned (OpenSpec.ofChange fnFindElementRoundTripSpec)

/-- ITS FALSE NEIGHBOUR: 'it returns false'. Refute it at one input. -/
def fnFindElementRoundTripWrong : ChangeSpec := { name := "fnFindElementRoundTrip", fn := fun _ => fun
  | [d1, d2, d3, d4] => { results := [.lit (.bool false)], args := [d1, d2, d3, d4] }
  | _ => none }
def FnFindElementRoundTripWrongFalsely : Prop := fnFindElementRoundTripRow.holds Try.pinned (OpenSpec.ofChange fnFindElementRoundTripWrong)

/-- 'zzlaws_splicing_b1.FnFindElementKeepsAnswerUnderTrailingBytes': WHATEVER THE INPUT: true; the input reads as it did. -/
def fnFindElementKeepsAnswerUnderTrailingBytesSpec : ChangeSpec := { name := "fnFindElementKeepsAnswerUnderTrailingBytes", fn := fun _ => fun
  | [d1, d2, d3, d4] => { results := [.lit (.bool true)], args := [d1, d2, d3, d4] }
  | _ => none }
def fnFindElementKeepsAnswerUnderTrailingBytesRow : OpenClaim := { program := "qxb6602601a", sum := "bf72851f717d203d85809ecf55dff39c8af76cd09b49699dd3f28f119a5bfd13", func := "example.com/splicewire/splicewire/zzlaws_splicing_b1.FnFindElementKeepsAnswerUnderTrailingBytes", spec := "fnFindElementKeepsAnswerUnderTrailingBytes", apart := false }
def FnFindElementKeepsAnswerUnderTrailingBytesSaid : Prop := fnFindElementKeepsAnswerUnderTrailingBytesRow.holds Try.pinned (OpenSpec.ofChange fnFindElementKeepsAnswerUnderTrailingBytesSpec)

/-- ITS FALSE NEIGHBOUR: 'it returns false'. Refute it at one input. -/
def fnFindElementKeepsAnswerUnderTrailingBytesWrong : ChangeSpec := { name := "fnFindElementKeepsAnswerUnderTrailingBytes", fn := fun _ => fun
  | [d1, d2, d3, d4] => { results := [.lit (.bool false)], args := [d1, d2, d3, d4] }
  | _ => none }
def FnFindElementKeepsAnswerUnderTrailingBytesWrongFalsely : Prop := fnFindElementKeepsAnswerUnderTrailingBytesRow.holds Try.pinned (OpenSpec.ofChange fnFindElementKeepsAnswerUnderTrailingBytesWrong)

end Rows
end Go.Proofs.Qxb6602601a
