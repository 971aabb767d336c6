/-
  No cell of these rows narrows 'for every input' (looked for: loops, veiled, ifaces, maps, wideKeys, modest, calm, conditions, laid).
  DERIVED. THE GIVEN ROWS OF THIS SEAT. 4 by the template 'for every input the law returns true; each argument reads behind the call as it read before'; 0 by the template 'total and deterministic' (their statements: Qxb6602989aTotals.lean).
  GIVEN WITH THE SEED: the statements are not yours to turn. If you find one false, say at which input.
  Laid BY PROGRAM, IN A SANDBOX (cutbox-rows.mjs): the forced cells as the released guide's own fill.sh prints them over the translation 4abe7231dd992026… (all of the seat's roots in one cut). By AI agents, Wed Nov 11 2026. No macro, syntax, notation, axiom, sorry.
-/
import Derived.Test.Qxb6602989aChecked
import GoSem.Claim
import GoSem.ClaimJoined
import GoSem.ClaimMapViews
import Derived.JoinedTies
import Derived.KernelRfl
namespace Go.Proofs.Qxb6602989a
/- THE CELL 'sum', in the pinned program and in every row, IS THE sha256 OF THE DUMP (.gsa) THAT Qxb6602989aProg.lean LOADS. Nothing in Lean hashes anything: it is a label: what it is worth is what the hold of that sum in a sandbox is worth. -/
noncomputable def Try.pinned : Pinned := { name := "qxb6602989a", sum := "4abe7231dd992026a041ccd61c555ee8ff1c907a4f0881a3304e283b0921f64a", checked := Try.checked }
namespace Rows
def none {H : Type} : Left H := { results := [], args := [] }

/-- 'zzlaws_internal_engine_b1.FnBusyExact': WHATEVER THE INPUT: true; the input reads as it did. -/
def fnBusyExactSpec : ChangeSpec := { name := "fnBusyExact", fn := fun _ => fun
  | [d1, d2, d3, d4, d5] => { results := [.lit (.bool true)], args := [d1, d2, d3, d4, d5] }
  | _ => none }
def fnBusyExactRow : OpenClaim := { program := "qxb6602989a", sum := "4abe7231dd992026a041ccd61c555ee8ff1c907a4f0881a3304e283b0921f64a", func := "example.com/runnerwright/runnerwright/zzlaws_internal_engine_b1.FnBusyExact", spec := "fnBusyExact", apart := false }
def FnBusyExactSaid : Prop := fnBusyExactRow.holds Try.pinned (OpenSpec.ofChange fnBusyExactSpec)

/-- ITS FALSE NEIGHBOUR: 'it returns false'. Refute it at one input. -/
def fnBusyExactWrong : ChangeSpec := { name := "fnBusyExact", fn := fun _ => fun
  | [d1, d2, d3, d4, d5] => { results := [.lit (.bool false)], args := [d1, d2, d3, d4, d5] }
  | _ => none }
def FnBusyExactWrongFalsely : Prop := fnBusyExactRow.holds Try.pinned (OpenSpec.ofChange fnBusyExactWrong)

/-- 'zzlaws_internal_engine_b1.FnBusyPaged': WHATEVER THE INPUT: true; the input reads as it did. -/
def fnBusyPagedSpec : ChangeSpec := { name := "fnBusyPaged", fn := fun _ => fun
  | [d1, d2, d3, d4, d5, d6] => { results := [.lit (.bool true)], args := [d1, d2, d3, d4, d5, d6] }
  | _ => none }
def fnBusyPagedRow : OpenClaim := { program := "qxb6602989a", sum := "4abe7231dd992026a041ccd61c555ee8ff1c907a4f0881a3304e283b0921f64a", func := "example.com/runnerwright/runnerwright/zzlaws_internal_engine_b1.FnBusyPaged", spec := "fnBusyPaged", apart := false }
def FnBusyPagedSaid : Prop := fnBusyPagedRow.holds Try.pinned (OpenSpec.ofChange fnBusyPagedSpec)

/-- ITS FALSE NEIGHBOUR: 'it returns false'. Refute it at one input. -/
def fnBusyPagedWrong : ChangeSpec := { name := "fnBusyPaged", fn := fun _ => fun
  | [d1, d2, d3, d4, d5, d6] => { results := [.lit (.bool false)], args := [d1, d2, d3, d4, d5, d6] }
  | _ => none }
def FnBusyPagedWrongFalsely : Prop := fnBusyPagedRow.holds Try.pinned (OpenSpec.ofChange fnBusyPagedWrong)

/-- 'zzlaws_internal_engine_b1.FnRegistrationsOfExact': WHATEVER THE INPUT: true; the input reads as it did. -/
def fnRegistrationsOfExactSpec : ChangeSpec := { name := "fnRegistrationsOfExact", fn := fun _ => fun
  | [d1, d2, d3, d4] => { results := [.lit (.bool true)], args := [d1, d2, d3, d4] }
  | _ => none }
def fnRegistrationsOfExactRow : OpenClaim := { program := "qxb6602989a", sum := "4abe7231dd992026a041ccd61c555ee8ff1c907a4f0881a3304e283b0921f64a", func := "example.com/runnerwright/runnerwright/zzlaws_internal_engine_b1.FnRegistrationsOfExact", spec := "fnRegistrationsOfExact", apart := false }
def FnRegistrationsOfExactSaid : Prop := fnRegistrationsOfExactRow.holds Try.pinned (OpenSpec.ofChange fnRegistrationsOfExactSpec)

/-- ITS FALSE NEIGHBOUR: 'it returns false'. Refute it at one input. -/
def fnRegistrationsOfExactWrong : ChangeSpec := { name := "fnRegistrationsOfExact", fn := fun _ => fun
  | [d1, d2, d3, d4] => { results := [.lit (.bool false)], args := [d1, d2, d3, d4] }
  | _ => none }
def FnRegistrationsOfExactWrongFalsely : Prop := fnRegistrationsOfExactRow.holds Try.pinned (OpenSpec.ofChange fnRegistrationsOfExactWrong)

/-- 'zzlaws_internal_engine_b1.FnRegistrationsOfSplit': WHATEVER THE INPUT: true; the input reads as it did. -/
def fnRegistrationsOfSplitSpec : ChangeSpec := { name := "fnRegistrationsOfSplit", fn := fun _ => fun
  | [d1, d2, d3, d4, d5] => { results := [.lit (.bool true)], args := [d1, d2, d3, d4, d5] }
  | _ => none }
def fnRegistrationsOfSplitRow : OpenClaim := { program := "qxb6602989a", sum := "4abe7231dd992026a041ccd61c555ee8ff1c907a4f0881a3304e283b0921f64a", func := "example.com/runnerwright/runnerwright/zzlaws_internal_engine_b1.FnRegistrationsOfSplit", spec := "fnRegistrationsOfSplit", apart := false }
def FnRegistrationsOfSplitSaid : Prop := fnRegistrationsOfSplitRow.holds Try.pinned (OpenSpec.ofChange fnRegistrationsOfSplitSpec)

/-- ITS FALSE NEIGHBOUR: 'it returns false'. Refute it at one input. -/
def fnRegistrationsOfSplitWrong : ChangeSpec := { name := "fnRegistrationsOfSplit", fn := fun _ => fun
  | [d1, d2, d3, d4, d5] => { results := [.lit (.bool false)], args := [d1, d2, d3, d4, d5] }
  | _ => none }
def FnRegistrationsOfSplitWrongFalsely : Prop := fnRegistrationsOfSplitRow.holds Try.pinned (OpenSpec.ofChange fnRegistrationsOfSplitWrong)

end Rows
end Go.Proofs.Qxb6602989a
