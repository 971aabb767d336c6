import Derived.Test.Qxb6602989aEarly
import Derived.ProofKit
import Derived.OpenShut
import Derived.ShutString
import Derived.ChangeOld
import Derived.Below
import Derived.Deep.Strs
namespace Go.Proofs.Qxb6602989a
open Go.ChangeShapes Go.WideShapes Go.ChangeAt Go.RowKit Go.Deep
set_option linter.unusedVariables false

theorem own : ownKnob Try.prog.godebug = none := by kernel_rfl
theorem laidOut : laidOutB Try.prog = true := by kernel_rfl
theorem Try.cells9 : Try.prog.cellsOf 9 = 1 := by kernel_rfl
theorem Try.cells23 : Try.prog.cellsOf 23 = 1 := by kernel_rfl
theorem Try.cells2 : Try.prog.cellsOf 2 = 1 := by kernel_rfl

theorem empty_le : ByteArray.empty.size ≤ maxLen := Nat.zero_le _

section
variable {H : Type} {enc : TypeId × Value → H} {w : World} {base : Nat} {spare : Nat → Bool} {held : Bool}

/-- A []string that came in. -/
theorem strs_in {fuel : Nat} {cs : List Value} {x : DataW H × List MemPlace} (h : DataW.trod enc Try.prog w base spare held fuel 23 cs = some x) :
    ∃ (a : Option Addr) (len cap : Nat) (S : Nat → ByteArray), cs = [.slice a len cap] ∧ SView w a len S ∧ (∀ i, (S i).size ≤ maxLen) ∧ len ≤ maxLen := by
  rcases open_strs Try.underlying23 Try.underlying9 Try.cells9 h with ⟨hcs, _⟩ | ⟨a, len, cap, m, Sx, hcs, _, hl, hm, hmm, _, hc⟩
  · exact ⟨none, 0, 0, fun _ => ByteArray.empty, hcs, .inl rfl, fun _ => empty_le, Nat.zero_le _⟩
  · have hlm : len ≤ m := by rw [hmm]; split <;> omega
    refine ⟨some a, len, cap, fun i => if i < m then Sx i else ByteArray.empty, hcs, ?_, fun i => ?_, Nat.le_trans hl hm⟩
    · by_cases h0 : len = 0
      · exact .inl h0
      · obtain ⟨b, off, spot⟩ := a
        have hspot : spot = none := by simpa [Addr.add] using World.cell?_spot (hc 0 (by omega)).1
        subst hspot
        refine .inr ⟨b, off, rfl, fun i hi => ?_⟩
        show w.cell? ⟨b, off + i, none⟩ = some (.string (if i < m then Sx i else ByteArray.empty))
        rw [← add_plain, if_pos (by omega)]
        exact (hc i (by omega)).1
    · show (if i < m then Sx i else ByteArray.empty).size ≤ maxLen
      by_cases hi : i < m
      · rw [if_pos hi]; exact (hc i hi).2
      · rw [if_neg hi]; exact empty_le

/-- A [][]string that came in. -/
theorem lists_in {fuel : Nat} {cs : List Value} {x : DataW H × List MemPlace} (h : DataW.trod enc Try.prog w base spare held fuel 24 cs = some x) :
    ∃ (a : Option Addr) (len cap : Nat) (A : Nat → Option Addr) (L C : Nat → Nat) (T : Nat → Nat → ByteArray), cs = [.slice a len cap] ∧ Outer w a len A L C ∧ (∀ r, r < len → SView w (A r) (L r) (T r)) ∧ (∀ r i, (T r i).size ≤ maxLen) ∧ (∀ r, r < len → L r ≤ maxLen) ∧ len ≤ maxLen := by
  rcases open_slice1 Try.underlying24 Try.cells23 h with ⟨hcs, _⟩ | ⟨a, len, cap, m, n, V, D, Pl, hcs, _, hl, hm, hmm, _, hx⟩
  · exact ⟨none, 0, 0, fun _ => none, fun _ => 0, fun _ => 0, fun _ _ => ByteArray.empty, hcs, .inl rfl, fun r hr => absurd hr (by omega), fun _ _ => empty_le, fun r hr => absurd hr (by omega), Nat.zero_le _⟩
  · have hlm : len ≤ m := by rw [hmm]; split <;> omega
    have each : ∀ r, r < m → ∃ y : Option Addr × Nat × Nat × (Nat → ByteArray), V r = .slice y.1 y.2.1 y.2.2.1 ∧ SView w y.1 y.2.1 y.2.2.2 ∧ (∀ i, (y.2.2.2 i).size ≤ maxLen) ∧ y.2.1 ≤ maxLen := by
      intro r hr
      obtain ⟨a', l', c', S, hv, h1, h2, h3⟩ := strs_in (hx r hr).2
      exact ⟨(a', l', c', S), by simpa using hv, h1, h2, h3⟩
    obtain ⟨y, hy⟩ := choose_lt each
    refine ⟨some a, len, cap, fun r => (y r).1, fun r => (y r).2.1, fun r => (y r).2.2.1, fun r => if r < m then (y r).2.2.2 else fun _ => ByteArray.empty, hcs, ?_, fun r hr => ?_, fun r i => ?_, fun r hr => (hy r (by omega)).2.2.2, Nat.le_trans hl hm⟩
    · by_cases h0 : len = 0
      · exact .inl h0
      · obtain ⟨b, off, spot⟩ := a
        have hspot : spot = none := by simpa [Addr.add] using World.cell?_spot (hx 0 (by omega)).1
        subst hspot
        refine .inr ⟨b, off, rfl, fun r hr => ?_⟩
        rw [← add_plain, (hx r (by omega)).1, (hy r (by omega)).1]
    · show SView w (y r).1 (y r).2.1 (if r < m then (y r).2.2.2 else fun _ => ByteArray.empty)
      rw [if_pos (by omega)]
      exact (hy r (by omega)).2.1
    · show ((if r < m then (y r).2.2.2 else fun _ => ByteArray.empty) i).size ≤ maxLen
      by_cases hr : r < m
      · rw [if_pos hr]; exact (hy r hr).2.2.1 i
      · rw [if_neg hr]; exact empty_le

/-- A []int64 that came in. -/
theorem ints_in {fuel : Nat} {cs : List Value} {x : DataW H × List MemPlace} (h : DataW.trod enc Try.prog w base spare held fuel 22 cs = some x) :
    ∃ (a : Option Addr) (len cap : Nat) (Z : Nat → Int), cs = [.slice a len cap] ∧ IView w a len Z ∧ len ≤ maxLen := by
  rcases open_ints Try.underlying22 Try.underlying2 Try.cells2 h with ⟨hcs, _⟩ | ⟨a, len, cap, zs, hcs, _, hl, hm, hz, _, hcell, _⟩
  · exact ⟨none, 0, 0, fun _ => 0, hcs, .inl rfl, Nat.zero_le _⟩
  · have hlz : len ≤ zs.length := by rw [hz]; split <;> omega
    refine ⟨some a, len, cap, fun i => zs.getD i 0, hcs, ?_, Nat.le_trans hl hm⟩
    by_cases h0 : len = 0
    · exact .inl h0
    · obtain ⟨b, off, spot⟩ := a
      have hspot : spot = none := by simpa [Addr.add] using World.cell?_spot (hcell 0 (by omega))
      subst hspot
      exact .inr ⟨b, off, rfl, fun i hi => by rw [← add_plain]; exact hcell i (by omega)⟩
end

set_option maxRecDepth 100000 in
theorem lifted (os : Os) (started : os.Started) (H : Type) (enc : TypeId × Value → H) :
    ReturnsInHanded {} Try.checked os 3 .any (Rows.fnBusyExactSpec.pre6 enc Try.prog Try.f3 Rows.fnBusyExactRow.domain false) (Rows.fnBusyExactSpec.post enc Try.prog Try.f3 false true false false) := by
  refine returnsInHanded_of_change (C := Try.checked) own started (by kernel_rfl) Try.func3
    (ChangeSpec.witness6 (enc := enc) (C := Try.checked) false ⟨#[], #[.slice none 0 0, .slice none 0 0, .slice none 0 0, .slice none 0 0, .slice none 0 0], []⟩ 8 (by kernel_rfl) (by kernel_rfl) (by kernel_rfl) (by kernel_rfl)) ?_
  intro W base args ds gs before hval0 hW hcnd _
  have hval : ∀ (j : Nat) t v, Try.f3.params[j]? = some t → args[j]? = some v → Value.okWide Try.prog W .any base t v := hval0
  have hW' := hW
  obtain ⟨p, q, hA0, hV, rfl, hfz, hnd⟩ := hW
  have hA : DataW.TrodAll enc Try.prog W 0 (fun _ => true) true Try.f3.params.toList args.toList ds p := hA0
  rw [Try.params3] at hA hval
  obtain ⟨v0, vs0, d0, ds0, p0, q0, hargs, rfl, rfl, h0, r0⟩ := trodAll_cons hA
  obtain ⟨v1, vs1, d1, ds1, p1, q1, rfl, rfl, rfl, h1, r1⟩ := trodAll_cons r0
  obtain ⟨v2, vs2, d2, ds2, p2, q2, rfl, rfl, rfl, h2, r2⟩ := trodAll_cons r1
  obtain ⟨v3, vs3, d3, ds3, p3, q3, rfl, rfl, rfl, h3, r3⟩ := trodAll_cons r2
  obtain ⟨v4, vs4, d4, ds4, p4, q4, rfl, rfl, rfl, h4, r4⟩ := trodAll_cons r3
  obtain ⟨rfl, rfl, rfl⟩ := trodAll_nil r4
  obtain rfl : args = #[v0, v1, v2, v3, v4] := by cases args; simp_all
  obtain ⟨rfl, rfl⟩ := trodVars_none hV
  obtain ⟨a0, n0, c0, rfl⟩ := okWide_slice Try.underlying22 (hval 0 22 v0 rfl rfl)
  obtain ⟨a1, n1, c1, rfl⟩ := okWide_slice Try.underlying23 (hval 1 23 v1 rfl rfl)
  obtain ⟨a2, n2, c2, rfl⟩ := okWide_slice Try.underlying23 (hval 2 23 v2 rfl rfl)
  obtain ⟨a3, n3, c3, rfl⟩ := okWide_slice Try.underlying24 (hval 3 24 v3 rfl rfl)
  obtain ⟨a4, n4, c4, rfl⟩ := okWide_slice Try.underlying23 (hval 4 23 v4 rfl rfl)
  have k0 := h0
  have k1 := h1
  have k2 := h2
  have k3 := h3
  have k4 := h4
  have lt0 : ∀ x ∈ p0, x.block < W.heap.size := by obtain ⟨m, hm⟩ := k0; exact DataW.trod_lt m _ _ _ hm
  have lt1 : ∀ x ∈ p1, x.block < W.heap.size := by obtain ⟨m, hm⟩ := k1; exact DataW.trod_lt m _ _ _ hm
  have lt2 : ∀ x ∈ p2, x.block < W.heap.size := by obtain ⟨m, hm⟩ := k2; exact DataW.trod_lt m _ _ _ hm
  have lt3 : ∀ x ∈ p3, x.block < W.heap.size := by obtain ⟨m, hm⟩ := k3; exact DataW.trod_lt m _ _ _ hm
  have lt4 : ∀ x ∈ p4, x.block < W.heap.size := by obtain ⟨m, hm⟩ := k4; exact DataW.trod_lt m _ _ _ hm
  obtain ⟨Id, u0, m0⟩ : ∃ Id, IView W a0 n0 Id ∧ n0 ≤ maxLen := by
    obtain ⟨fuel, hf⟩ := h0
    obtain ⟨a, len, cap, Z, hcs, g1, g2⟩ := ints_in hf
    simp [Value.cells] at hcs
    obtain ⟨rfl, rfl, rfl⟩ := hcs
    exact ⟨Z, g1, g2⟩
  obtain ⟨S1, u1, z1, m1⟩ : ∃ S, SView W a1 n1 S ∧ (∀ i, (S i).size ≤ maxLen) ∧ n1 ≤ maxLen := by
    obtain ⟨fuel, hf⟩ := h1
    obtain ⟨a, len, cap, S, hcs, g1, g2, g3⟩ := strs_in hf
    simp [Value.cells] at hcs
    obtain ⟨rfl, rfl, rfl⟩ := hcs
    exact ⟨S, g1, g2, g3⟩
  obtain ⟨S2, u2, z2, m2⟩ : ∃ S, SView W a2 n2 S ∧ (∀ i, (S i).size ≤ maxLen) ∧ n2 ≤ maxLen := by
    obtain ⟨fuel, hf⟩ := h2
    obtain ⟨a, len, cap, S, hcs, g1, g2, g3⟩ := strs_in hf
    simp [Value.cells] at hcs
    obtain ⟨rfl, rfl, rfl⟩ := hcs
    exact ⟨S, g1, g2, g3⟩
  obtain ⟨A, L, C, T, u3, uI, zT, zL, m3⟩ : ∃ (A : Nat → Option Addr) (L C : Nat → Nat) (T : Nat → Nat → ByteArray), Outer W a3 n3 A L C ∧ (∀ r, r < n3 → SView W (A r) (L r) (T r)) ∧ (∀ r i, (T r i).size ≤ maxLen) ∧ (∀ r, r < n3 → L r ≤ maxLen) ∧ n3 ≤ maxLen := by
    obtain ⟨fuel, hf⟩ := h3
    obtain ⟨a, len, cap, A, L, C, T, hcs, g1, g2, g3, g4, g5⟩ := lists_in hf
    simp [Value.cells] at hcs
    obtain ⟨rfl, rfl, rfl⟩ := hcs
    exact ⟨A, L, C, T, g1, g2, g3, g4, g5⟩
  obtain ⟨S4, u4, z4, m4⟩ : ∃ S, SView W a4 n4 S ∧ (∀ i, (S i).size ≤ maxLen) ∧ n4 ≤ maxLen := by
    obtain ⟨fuel, hf⟩ := h4
    obtain ⟨a, len, cap, S, hcs, g1, g2, g3⟩ := strs_in hf
    simp [Value.cells] at hcs
    obtain ⟨rfl, rfl, rfl⟩ := hcs
    exact ⟨S, g1, g2, g3⟩
  clear hA0 hval0
  refine (main_any a0 a1 a2 a3 a4 n0 n1 n2 n3 n4 c0 c1 c2 c3 c4 Id S1 S2 S4 A L C T W u0 ⟨u1, u2, u3, u4, uI, z1, z2, z4, zT, zL⟩ m0 m1 m2 m3 m4).mono fun e W' ⟨he, bel⟩ => ?_
  subst he
  exact ⟨_, rfl, _, _, _, [], _, [], hW', trodAll_mk1 (shut_bool Try.underlying4 _), (trodAll_cons_mk (Below.trod laidOut (by kernel_rfl) (of_decide_eq_true (by kernel_rfl)) k0 bel lt0) (trodAll_cons_mk (Below.trod laidOut (by kernel_rfl) (of_decide_eq_true (by kernel_rfl)) k1 bel lt1) (trodAll_cons_mk (Below.trod laidOut (by kernel_rfl) (of_decide_eq_true (by kernel_rfl)) k2 bel lt2) (trodAll_cons_mk (Below.trod laidOut (by kernel_rfl) (of_decide_eq_true (by kernel_rfl)) k3 bel lt3) (trodAll_cons_mk (Below.trod laidOut (by kernel_rfl) (of_decide_eq_true (by kernel_rfl)) k4 bel lt4) trodAll_mk0))))), rfl, bel.frame _, fun h => by cases h⟩

theorem over : Rows.fnBusyExactRow.holds Try.pinned (OpenSpec.ofChange Rows.fnBusyExactSpec) :=
  OpenClaim.holds_of_wide 3 Try.f3 rfl rfl rfl rfl rfl rfl rfl ⟨rfl, rfl, rfl, rfl, rfl⟩ rfl rfl rfl rfl rfl (by kernel_rfl) Try.func3 (by kernel_rfl)
    (of_decide_eq_true (by kernel_rfl)) (by unfold Func.isWrapper; first | (rw [if_pos (by decide +kernel)]; kernel_rfl) | (rw [if_neg (by decide +kernel)]; exact ⟨rfl, rfl⟩))
    (fun os started H enc _ => lifted os started H enc)

/-- THE STATEMENT. -/
theorem proved : Rows.FnBusyExactSaid := over
#print axioms proved
end Go.Proofs.Qxb6602989a
