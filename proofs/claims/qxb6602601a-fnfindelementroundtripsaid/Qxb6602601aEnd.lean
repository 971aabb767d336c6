import Derived.Test.Qxb6602601aMain0
import Derived.Test.Qxb6602601aMain1
import Derived.Test.Qxb6602601aMain1n
import Derived.Test.Qxb6602601aMain2n
import Derived.ProofKit
import Derived.OpenShut
import Derived.ShutString
import Derived.ChangeOld
import Derived.Below
import Derived.Deep.Matrix
namespace Go.Proofs.Qxb6602601a
open Go.ChangeShapes Go.WideShapes Go.ChangeAt Go.RowKit Go.Deep
set_option linter.unusedVariables false

theorem main_any (o : Bool) (u : Int) (hu : 0 ≤ u ∧ u ≤ 255) (a2 : Option Addr) (n2 c2 : Nat) (A : Nat → Option Addr) (L C : Nat → Nat) (Z : Nat → Nat → Int) (a3 : Option Addr) (n3 c3 : Nat) (P : Nat → Int) (w : World)
    (hl : Lists w a2 n2 A L C Z) (hZ : ∀ r i, 0 ≤ Z r i ∧ Z r i ≤ 255) (hv3 : View w a3 n3 P) (hP : ∀ i, 0 ≤ P i ∧ P i ≤ 255) (hn2 : n2 ≤ maxLen) (hn3 : n3 ≤ maxLen) (hL : ∀ r, r < n2 → L r ≤ maxLen) (hnil : a3 = none → n3 = 0 ∧ c3 = 0) :
    Calls Try.prog 3 #[.bool o, .int .u8 u, .slice a2 n2 c2, .slice a3 n3 c3] w fun e w' => e = .returned (.bool true) ∧ Below w.heap.size w w' := by
  by_cases h0 : n2 = 0
  · subst h0
    exact main_empty o u hu a2 c2 a3 n3 c3 P w hv3 (fun h => (hnil h).1) hn3
  · have hlt := hl.outer.lt
    rcases hl.outer with h | ⟨b, off, rfl, hR⟩
    · exact absurd h h0
    · have hb := hlt _ rfl (by omega)
      cases a3 with
      | none =>
        obtain ⟨rfl, rfl⟩ := hnil rfl
        cases o with
        | true => exact main_one_nil u hu b off n2 c2 A L C Z w hl hZ hn2 hL hb hR
        | false => exact main_two_nil u hu b off n2 c2 A L C Z w hl hZ hn2 hL hb hR
      | some x3 =>
        cases o with
        | true => exact main_one u hu b off n2 c2 A L C Z x3 n3 c3 P w hl hZ hv3 hP hn2 hn3 hL hb hR
        | false => exact main_two u hu b off n2 c2 A L C Z x3 n3 c3 P w hl hZ hv3 hP hn2 hn3 hL hb hR

theorem own : ownKnob Try.prog.godebug = none := by kernel_rfl
theorem laidOut : laidOutB Try.prog = true := by kernel_rfl

theorem u8_bounds {n : Int} (h : (Lit.int .u8 n).wf = true) : 0 ≤ n ∧ n ≤ 255 := by
  have := bounds_u8 h
  omega

theorem getD_bounds {zs : List Int} (h : ∀ n ∈ zs, (Lit.int .u8 n).wf = true) (i : Nat) : 0 ≤ zs.getD i 0 ∧ zs.getD i 0 ≤ 255 := by
  rw [List.getD_eq_getElem?_getD]
  by_cases hi : i < zs.length
  · rw [List.getElem?_eq_getElem hi]
    exact u8_bounds (h _ (List.getElem_mem hi))
  · rw [List.getElem?_eq_none (by omega)]
    exact ⟨Int.le_refl 0, by show (0 : Int) ≤ 255; decide⟩

/-- A byte slice that came in. -/
theorem view_of {w : World} {x : Addr} {n c : Nat} {zs : List Int} (hl : n ≤ c) (hz : zs.length = c) (hcell : ∀ i, i < zs.length → w.cell? (x.add i) = some (.int .u8 (zs.getD i 0))) : View w (some x) n (fun i => zs.getD i 0) := by
  by_cases h0 : n = 0
  · exact .inl h0
  · obtain ⟨b, off, spot⟩ := x
    have hspot : spot = none := by simpa [Addr.add] using World.cell?_spot (hcell 0 (by omega))
    subst hspot
    exact .inr ⟨b, off, rfl, fun i hi => by rw [← add_plain]; exact hcell i (by omega)⟩

/-- A slice of byte slices that came in. -/
theorem lists_of {w : World} {base : Nat} {a : Addr} {len cap : Nat} {A : Nat → Option Addr} {L C : Nat → Nat} {Z : Nat → List Int} (hl : len ≤ cap)
    (h : ∀ r, r < cap → w.cell? (a.add r) = some (.slice (A r) (L r) (C r)) ∧ L r ≤ C r ∧ C r ≤ maxLen ∧ (Z r).length = C r ∧ (∀ n ∈ Z r, (Lit.int .u8 n).wf = true) ∧ (A r = none → C r = 0) ∧
        ∀ a', A r = some a' → base ≤ a'.block ∧ ∀ c, c < C r → w.cell? (a'.add c) = some (.int .u8 ((Z r).getD c 0))) :
    Lists w (some a) len A L C (fun r i => if r < cap then (Z r).getD i 0 else 0) ∧ (∀ r i, 0 ≤ (if r < cap then (Z r).getD i 0 else 0) ∧ (if r < cap then (Z r).getD i 0 else 0) ≤ 255) ∧ ∀ r, r < len → L r ≤ maxLen := by
  refine ⟨⟨?_, fun r hr => ?_, fun r hr hA => ?_⟩, fun r i => ?_, fun r hr => ?_⟩
  · by_cases h0 : len = 0
    · exact .inl h0
    · obtain ⟨b, off, spot⟩ := a
      have hspot : spot = none := by simpa [Addr.add] using World.cell?_spot (h 0 (by omega)).1
      subst hspot
      exact .inr ⟨b, off, rfl, fun r hr => by rw [← add_plain]; exact (h r (by omega)).1⟩
  · obtain ⟨_, h1, h2, h3, h4, h5, h6⟩ := h r (by omega)
    cases hA : A r with
    | none => exact .inl (by have := h5 hA; omega)
    | some x =>
      have hv := view_of (w := w) (x := x) (n := L r) (c := C r) (zs := Z r) h1 h3 (fun i hi => (h6 x hA).2 i (by omega))
      simp only [if_pos (show r < cap by omega)]
      exact hv
  · obtain ⟨_, h1, h2, h3, h4, h5, h6⟩ := h r (by omega)
    have := h5 hA
    omega
  · by_cases hr : r < cap
    · simp only [if_pos hr]
      exact getD_bounds (h r hr).2.2.2.2.1 i
    · simp only [if_neg hr]
      exact ⟨Int.le_refl 0, by decide⟩
  · obtain ⟨_, h1, h2, _⟩ := h r (by omega)
    omega

set_option maxRecDepth 100000 in
theorem lifted (os : Os) (started : os.Started) (H : Type) (enc : TypeId × Value → H) :
    ReturnsInHanded {} Try.checked os 3 .any (Rows.fnFindElementRoundTripSpec.pre6 enc Try.prog Try.f3 Rows.fnFindElementRoundTripRow.domain false) (Rows.fnFindElementRoundTripSpec.post enc Try.prog Try.f3 false true false false) := by
  refine returnsInHanded_of_change (C := Try.checked) own started (by kernel_rfl) Try.func3
    (ChangeSpec.witness6 (enc := enc) (C := Try.checked) false ⟨#[], #[.bool false, .int .u8 0, .slice none 0 0, .slice none 0 0], []⟩ 8 (by kernel_rfl) (by kernel_rfl) (by kernel_rfl) (by kernel_rfl)) ?_
  intro W base args ds gs before hval0 hW hcnd _
  have hval : ∀ (j : Nat) t v, Try.f3.params[j]? = some t → args[j]? = some v → Value.okWide Try.prog W .any base t v := hval0
  have hW' := hW
  obtain ⟨p, q, hA0, hV, rfl, hfz, hnd⟩ := hW
  have hA : DataW.TrodAll enc Try.prog W 0 (fun _ => true) true Try.f3.params.toList args.toList ds p := hA0
  rw [Try.params3] at hA hval
  obtain ⟨v0, vs0, d0, ds0, p0, q0, hargs, rfl, rfl, h0, r0⟩ := trodAll_cons hA
  obtain ⟨v1, vs1, d1, ds1, p1, q1, rfl, rfl, rfl, h1, r1⟩ := trodAll_cons r0
  obtain ⟨v2, vs2, d2, ds2, p2, q2, rfl, rfl, rfl, h2, r2⟩ := trodAll_cons r1
  obtain ⟨v3, vs3, d3, ds3, p3, q3, rfl, rfl, rfl, h3, r3⟩ := trodAll_cons r2
  obtain ⟨rfl, rfl, rfl⟩ := trodAll_nil r3
  obtain rfl : args = #[v0, v1, v2, v3] := by cases args; simp_all
  obtain ⟨rfl, rfl⟩ := trodVars_none hV
  obtain ⟨o, rfl, rfl, rfl⟩ := open_bool Try.underlying4 (hval 0 4 v0 rfl rfl) h0
  obtain ⟨u, rfl, rfl, rfl, wu⟩ := open_int Try.underlying5 (hval 1 5 v1 rfl rfl) h1
  obtain ⟨a2, len2, cap2, rfl⟩ := okWide_slice Try.underlying22 (hval 2 22 v2 rfl rfl)
  have k2 := h2
  have lt2 : ∀ x ∈ p2, x.block < W.heap.size := by obtain ⟨m, hm⟩ := k2; exact DataW.trod_lt m _ _ _ hm
  obtain ⟨A, L, C, Z, hL, hZ, hLm, hn2⟩ : ∃ (A : Nat → Option Addr) (L C : Nat → Nat) (Z : Nat → Nat → Int), Lists W a2 len2 A L C Z ∧ (∀ r i, 0 ≤ Z r i ∧ Z r i ≤ 255) ∧ (∀ r, r < len2 → L r ≤ maxLen) ∧ len2 ≤ maxLen := by
    obtain ⟨fuel, hf⟩ := h2
    rcases open_int_rows Try.underlying22 Try.underlying23 Try.underlying5 (by kernel_rfl) (by kernel_rfl) hf with ⟨hcs, _⟩ | ⟨a, l, c, A, L, C, Z, hcs, _, hl, hm, _, hrows⟩
    · simp [Value.cells] at hcs
      obtain ⟨rfl, rfl, rfl⟩ := hcs
      exact ⟨fun _ => none, fun _ => 0, fun _ => 0, fun _ _ => 0, ⟨.inl rfl, fun r hr => absurd hr (by omega), fun r hr => absurd hr (by omega)⟩, fun _ _ => ⟨Int.le_refl 0, by show (0 : Int) ≤ 255; decide⟩, fun r hr => absurd hr (by omega), Nat.zero_le _⟩
    · simp [Value.cells] at hcs
      obtain ⟨rfl, rfl, rfl⟩ := hcs
      obtain ⟨g1, g2, g3⟩ := lists_of hl hrows
      exact ⟨A, L, C, _, g1, g2, g3, Nat.le_trans hl hm⟩
  obtain ⟨a3, len3, cap3, rfl⟩ := okWide_slice Try.underlying23 (hval 3 23 v3 rfl rfl)
  have k3 := h3
  have lt3 : ∀ x ∈ p3, x.block < W.heap.size := by obtain ⟨m, hm⟩ := k3; exact DataW.trod_lt m _ _ _ hm
  obtain ⟨P, hv3, hP, hn3, hnil3⟩ : ∃ (P : Nat → Int), View W a3 len3 P ∧ (∀ i, 0 ≤ P i ∧ P i ≤ 255) ∧ len3 ≤ maxLen ∧ (a3 = none → len3 = 0 ∧ cap3 = 0) := by
    obtain ⟨fuel, hf⟩ := h3
    rcases open_ints Try.underlying23 Try.underlying5 (by kernel_rfl) hf with ⟨hcs, _⟩ | ⟨x, l, c, zs, hcs, _, hl, hm, hz, _, hcell, hwz⟩
    · simp [Value.cells] at hcs
      obtain ⟨rfl, rfl, rfl⟩ := hcs
      exact ⟨fun _ => 0, .inl rfl, fun _ => ⟨Int.le_refl 0, by show (0 : Int) ≤ 255; decide⟩, Nat.zero_le _, fun _ => ⟨rfl, rfl⟩⟩
    · simp [Value.cells] at hcs
      obtain ⟨rfl, rfl, rfl⟩ := hcs
      exact ⟨fun i => zs.getD i 0, view_of hl (by simpa using hz) hcell, getD_bounds hwz, Nat.le_trans hl hm, fun h => by cases h⟩
  clear hA0 hval0
  refine (main_any o u (u8_bounds wu) a2 len2 cap2 A L C Z a3 len3 cap3 P W hL hZ hv3 hP hn2 hn3 hLm hnil3).mono fun e W' ⟨he, bel⟩ => ?_
  subst he
  exact ⟨_, rfl, _, _, _, [], _, [], hW', trodAll_mk1 (shut_bool Try.underlying4 _), (trodAll_cons_mk (shut_bool Try.underlying4 _) (trodAll_cons_mk (shut_int Try.underlying5 wu) (trodAll_cons_mk (Below.trod laidOut (by kernel_rfl) (of_decide_eq_true (by kernel_rfl)) k2 bel lt2) (trodAll_cons_mk (Below.trod laidOut (by kernel_rfl) (of_decide_eq_true (by kernel_rfl)) k3 bel lt3) trodAll_mk0)))), rfl, bel.frame _, fun h => by cases h⟩

theorem over : Rows.fnFindElementRoundTripRow.holds Try.pinned (OpenSpec.ofChange Rows.fnFindElementRoundTripSpec) :=
  OpenClaim.holds_of_wide 3 Try.f3 rfl rfl rfl rfl rfl rfl rfl ⟨rfl, rfl, rfl, rfl, rfl⟩ rfl rfl rfl rfl rfl (by kernel_rfl) Try.func3 (by kernel_rfl)
    (of_decide_eq_true (by kernel_rfl)) (by unfold Func.isWrapper; first | (rw [if_pos (by decide +kernel)]; kernel_rfl) | (rw [if_neg (by decide +kernel)]; exact ⟨rfl, rfl⟩))
    (fun os started H enc _ => lifted os started H enc)

/-- THE STATEMENT. -/
theorem proved : Rows.FnFindElementRoundTripSaid := over
#print axioms proved
end Go.Proofs.Qxb6602601a
