import Derived.Test.Qxb6602714aDec
import Derived.WalkKit
import Derived.ProofKit
import Derived.OpenShut
import Derived.ShutString
import Derived.ChangeOld
import Derived.Below
namespace Go.Proofs.Qxb6602714a.fnNumberReadsDecimal
open Go.ChangeShapes Go.WideShapes Go.ChangeAt Go.RowKit
open Go.ChangeMaps (open_string shut_string)
set_option linter.unusedVariables false      -- a walk need not use every 'w<i>' (that an integer argument fits its kind)

theorem own : ownKnob Try.prog.godebug = none := by kernel_rfl

theorem read_back (n0 : Nat) (hn : n0 < 9223372036854775808) (g t : Nat) (Z : Nat → Int) (w : World) (ht : t ≤ 24) (hZ : ∀ i, i < t → w.cell? ⟨g, i, none⟩ = some (.int .u8 (Z i))) (hd : ∀ i, i < t → 48 ≤ Z i ∧ Z i ≤ 57) (hV : V Z t = (n0 : Int)) :
    Calls Try.prog 12 #[.slice (some ⟨g, 0, none⟩) t t] w fun e w' => e = .returned (.tuple #[.int .i64 (n0 : Int), .bool true]) ∧ w = w' := by
  refine (zz_yes (some ⟨g, 0, none⟩) t t Z w (by omega) (.inr ⟨g, 0, rfl, fun i hi => by rw [Nat.zero_add]; exact hZ i hi⟩) hd).mono fun e w' ⟨he, hw⟩ => ⟨?_, hw.symm⟩
  rw [he, hV, IntWalk.wrap64_in (n0 : Int) ⟨by omega, by omega⟩]

theorem walk_nat (n0 : Nat) (hn : n0 < 9223372036854775808) (w : World) :
    Calls Try.prog 6 #[.int .i64 (n0 : Int)] w fun e w' => e = .returned (.bool true) ∧ Below w.heap.size w w' := by
  have hdec := dec_any n0 w hn
  go_enter Try.func6, Try.ntmps6
  go_wp2_with (first
    | (go_at_call 13; refine hdec.mono ?_; rintro e w1 ⟨g, t, Z, rfl, ht, hZ, hd, hV, hb⟩; have hrb := read_back n0 hn g t Z w1 ht hZ hd hV; clear hZ hd hV)
    | (go_at_call 12; refine hrb.mono ?_; rintro e w2 ⟨rfl, rfl⟩))
  go_ret
  exact ⟨rfl, by assumption⟩

theorem walk_neg (a0 : Int) (h : a0 < 0) (w : World) :
    Calls Try.prog 6 #[.int .i64 a0] w fun e w' => e = .returned (.bool true) ∧ Below w.heap.size w w' := by
  go_enter Try.func6, Try.ntmps6
  go_wp2
  go_ret
  exact ⟨rfl, Below.refl _ _⟩

theorem walk (a0 : Int) (w0 : (Lit.int .i64 a0).wf = true) (w : World) :
    Calls Try.prog 6 #[.int .i64 a0] w fun e w' => e = .returned (.bool true) ∧ Below w.heap.size w w' := by
  by_cases h : a0 < 0
  · exact walk_neg a0 h w
  · have hb := bounds_i64 w0
    obtain ⟨n0, rfl⟩ : ∃ n0 : Nat, a0 = (n0 : Int) := ⟨a0.toNat, by omega⟩
    exact walk_nat n0 (by omega) w

/-! ### THE ROW's STEP: WRITTEN OUT: LEAVE IT -/
set_option maxRecDepth 100000 in
theorem lifted (os : Os) (started : os.Started) (H : Type) (enc : TypeId × Value → H) :
    ReturnsInHanded {} Try.checked os 6 .any (Rows.fnNumberReadsDecimalSpec.pre6 enc Try.prog Try.f6 Rows.fnNumberReadsDecimalRow.domain false) (Rows.fnNumberReadsDecimalSpec.post enc Try.prog Try.f6 false true false false) := by
  refine returnsInHanded_of_change (C := Try.checked) own started (by kernel_rfl) Try.func6
    (ChangeSpec.witness6 (enc := enc) (C := Try.checked) false ⟨#[], #[.int .i64 0], []⟩ 8 (by kernel_rfl) (by kernel_rfl) (by kernel_rfl) (by kernel_rfl)) ?_
  intro W base args ds gs before hval0 hW hcnd _
  have hval : ∀ (j : Nat) t v, Try.f6.params[j]? = some t → args[j]? = some v → Value.okWide Try.prog W .any base t v := hval0
  have hW' := hW
  obtain ⟨p, q, hA0, hV, rfl, hfz, hnd⟩ := hW
  have hA : DataW.TrodAll enc Try.prog W 0 (fun _ => true) true Try.f6.params.toList args.toList ds p := hA0
  rw [Try.params6] at hA hval
  obtain ⟨v0, vs0, d0, ds0, p0, q0, hargs, rfl, rfl, h0, r0⟩ := trodAll_cons hA
  obtain ⟨rfl, rfl, rfl⟩ := trodAll_nil r0
  obtain rfl : args = #[v0] := by cases args; simp_all
  obtain ⟨rfl, rfl⟩ := trodVars_none hV
  obtain ⟨a0, rfl, rfl, rfl, w0⟩ := open_int Try.underlying3 (hval 0 3 v0 rfl rfl) h0
  clear hA0 hval0
  simp only [List.append_nil] at hW'
  refine (walk a0 w0 W).mono fun e W' ⟨he, hg⟩ => ?_
  subst he
  exact ⟨_, rfl, _, _, _, [], _, [], hW', trodAll_mk1 (shut_bool Try.underlying4 _), (trodAll_cons_mk (shut_int Try.underlying3 w0) trodAll_mk0), rfl, hg.frame _, fun h => by cases h⟩

theorem over : Rows.fnNumberReadsDecimalRow.holds Try.pinned (OpenSpec.ofChange Rows.fnNumberReadsDecimalSpec) :=
  OpenClaim.holds_of_wide 6 Try.f6 rfl rfl rfl rfl rfl rfl rfl ⟨rfl, rfl, rfl, rfl, rfl⟩ rfl rfl rfl rfl rfl (by kernel_rfl) Try.func6 (by kernel_rfl)
    (of_decide_eq_true (by kernel_rfl)) (by unfold Func.isWrapper; first | (rw [if_pos (by decide +kernel)]; kernel_rfl) | (rw [if_neg (by decide +kernel)]; exact ⟨rfl, rfl⟩))
    (fun os started H enc _ => lifted os started H enc)

/-- ████ THE STATEMENT ████ -/
theorem proved : Rows.FnNumberReadsDecimalSaid :=
  over
#print axioms proved
end Go.Proofs.Qxb6602714a.fnNumberReadsDecimal

namespace Go.Proofs.Qxb6602714a
theorem readsDecimal_proved : Rows.FnNumberReadsDecimalSaid := fnNumberReadsDecimal.proved
#print axioms readsDecimal_proved
end Go.Proofs.Qxb6602714a
