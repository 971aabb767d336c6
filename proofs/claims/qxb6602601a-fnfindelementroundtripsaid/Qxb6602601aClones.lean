import Derived.Test.Qxb6602601aBytes
namespace Go.Proofs.Qxb6602601a
open Go.RowKit
set_option linter.unusedVariables false

/-- What zzCloneBytesList has laid after t rows. -/
structure Laid (w wr : World) (n t : Nat) (L : Nat → Nat) (Z : Nat → Nat → Int) (A' : Nat → Option Addr) : Prop where
  row : wr.rowIs w.heap.size 23 n (fun j => if j < t then .slice (A' j) (L j) (L j) else .slice none 0 0)
  view : ∀ r, r < t → View wr (A' r) (L r) (Z r)
  own : ∀ r, r < t → ∀ x, A' r = some x → w.heap.size + 1 ≤ x.block
  nil_ : ∀ r, r < t → A' r = none → L r = 0
  below : Below w.heap.size w wr

theorem View.setCell {w : World} {a : Option Addr} {n : Nat} {Z : Nat → Int} (h : View w a n Z) {p : Addr} (hp : ∀ x, a = some x → x.block ≠ p.block) (v : Value) : View (w.setCell p v) a n Z := by
  rcases h with h | ⟨b, off, rfl, h⟩
  · exact .inl h
  · refine .inr ⟨b, off, rfl, fun i hi => ?_⟩
    have hne := hp _ rfl
    refine (World.cell?_of_block (w := w) (Below.heap_setCell _ _ _ _ ?_)).trans (h i hi)
    exact hne

theorem laid_step {w wr w1 : World} {n t : Nat} {L : Nat → Nat} {Z : Nat → Nat → Int} {A' : Nat → Option Addr} (h : Laid w wr n t L Z A') {a' : Option Addr} (hv : View w1 a' (L t) (Z t)) (hnil : a' = none → L t = 0) (hown : ∀ x, a' = some x → wr.heap.size ≤ x.block)
    (hb : Below wr.heap.size wr w1) : Laid w (w1.setCell ⟨w.heap.size, t, none⟩ (.slice a' (L t) (L t))) n (t + 1) L Z (fun j => if j = t then a' else A' j) := by
  have hsz := h.row.lt
  have hr1 : w1.rowIs w.heap.size 23 n (fun j => if j < t then .slice (A' j) (L j) (L j) else .slice none 0 0) := h.row.of_block (hb.block _ hsz)
  refine ⟨(hr1.set t _).congr (fun i _ => ?_), fun r hr => ?_, fun r hr x hx => ?_, fun r hr hx => ?_, (h.below.trans (hb.mono (by omega))).setCell (Nat.le_refl _) _⟩
  · show (if i = t then _ else if i < t then _ else _) = if i < t + 1 then _ else _
    by_cases e : i = t
    · subst e; simp
    · by_cases hi : i < t
      · rw [if_neg e, if_pos hi, if_pos (by omega), if_neg e]
      · rw [if_neg e, if_neg hi, if_neg (by omega)]
  · show View _ (if r = t then a' else A' r) _ _
    by_cases e : r = t
    · subst e
      rw [if_pos rfl]
      exact hv.setCell (fun x hx => by have := hown x hx; show x.block ≠ w.heap.size; omega) _
    · rw [if_neg e]
      have ho := h.own r (by omega)
      exact ((h.view r (by omega)).below hb (h.view r (by omega)).lt).setCell (fun x hx => by have := ho x hx; show x.block ≠ w.heap.size; omega) _
  · have hx : (if r = t then a' else A' r) = some x := hx
    by_cases e : r = t
    · subst e
      rw [if_pos rfl] at hx
      have := hown x hx; omega
    · rw [if_neg e] at hx
      exact h.own r (by omega) x hx
  · have hx : (if r = t then a' else A' r) = none := hx
    by_cases e : r = t
    · subst e
      rw [if_pos rfl] at hx
      exact hnil hx
    · rw [if_neg e] at hx
      exact h.nil_ r (by omega) hx

set_option maxRecDepth 100000 in
set_option maxHeartbeats 400000 in
theorem clones_some (b off n c : Nat) (A : Nat → Option Addr) (L C : Nat → Nat) (Z : Nat → Nat → Int) (w : World) (hn : n ≤ 65536) (hb : b < w.heap.size)
    (hR : ∀ r, r < n → w.cell? ⟨b, off + r, none⟩ = some (.slice (A r) (L r) (C r))) (hL : ∀ r, r < n → L r ≤ 1048576) (hV : ∀ r, r < n → View w (A r) (L r) (Z r)) (hN : ∀ r, r < n → A r = none → L r = 0) :
    Calls Try.prog 6 #[.slice (some ⟨b, off, none⟩) n c] w fun e w' => e = .returned (.slice (some ⟨w.heap.size, 0, none⟩) n n) ∧ ∃ A', Laid w w' n n L Z A' := by
  have hq := fun (wx : World) (a : Option Addr) (n c : Nat) => Lib.run_eql_slice_nil (P := Try.prog) wx 22 23 a n c 0 0 Try.underlying22
  have hmk := run_make_row' (P := Try.prog) 22 23 (.slice none 0 0) 24 Try.underlying22 Try.info23 rfl .i64 .i64 n (by omega) (by omega)
  go_enter Try.func6, Try.ntmps6
  go_wp2
  go_loopg [4] n (fun k i wr => ∃ (t : Nat) (A' : Nat → Option Addr), t + k = n ∧ i = .int .i64 t ∧ Laid w wr n t L Z A')
  case atStart => exact ⟨0, fun _ => none, by omega, rfl, (World.rowIs_made _ _ _ _).congr (fun i _ => by simp), fun r hr => absurd hr (by omega), fun r hr => absurd hr (by omega), fun r hr => absurd hr (by omega), (Below.refl _ _).alloc (Nat.le_refl _) _⟩
  case round =>
    obtain ⟨t, A', ht, rfl, hl⟩ := hrel
    by_cases hlt : t < n
    · have hc : wr.cell? ⟨b, off + t, none⟩ = some (.slice (A t) (L t) (C t)) := (hl.below.cell (by exact hb)).trans (hR t hlt)
      have hv : View wr (A t) (L t) (Z t) := (hV t hlt).below hl.below (hV t hlt).lt
      have hlt' : (t : Int) < (n : Int) := by omega
      have hL' := hL t hlt
      have hN' := hN t hlt
      clear hR hL hV hN
      go_wp2_with (go_at_call 7; refine (clone_any (A t) (L t) (C t) (Z t) wr hL' hv hN').mono ?_; rintro e w1 ⟨a', rfl, hv1, hnil1, hown1, hb1⟩; have hr1 := hl.row.of_block (hb1.block _ hl.row.lt); have hd := hr1.cell hlt; have hf := hr1.frozen t; clear hr1)
      go_roundg (gk - 1)
      case measure => omega
      case rel => exact ⟨t + 1, _, by omega, by go_num, laid_step hl (by assumption) (by assumption) (by assumption) (by assumption)⟩
    · obtain rfl : t = n := by omega
      go_wp2
      go_ret
      exact ⟨rfl, A', hl⟩

set_option maxRecDepth 100000 in
theorem clones_nil (n c : Nat) (w : World) : Calls Try.prog 6 #[.slice none n c] w fun e w' => e = .returned (.slice none 0 0) ∧ w' = w := by
  have hq := fun (wx : World) (a : Option Addr) (n c : Nat) => Lib.run_eql_slice_nil (P := Try.prog) wx 22 23 a n c 0 0 Try.underlying22
  go_enter Try.func6, Try.ntmps6
  go_wp2
  go_ret
  exact ⟨rfl, rfl⟩

set_option maxRecDepth 100000 in
theorem clones_zero (x : Addr) (n c : Nat) (h0 : n ≤ 0) (w : World) :
    Calls Try.prog 6 #[.slice (some x) n c] w fun e w' => e = .returned (.slice (some ⟨w.heap.size, 0, none⟩) n n) ∧ Below w.heap.size w w' := by
  have hq := fun (wx : World) (a : Option Addr) (n c : Nat) => Lib.run_eql_slice_nil (P := Try.prog) wx 22 23 a n c 0 0 Try.underlying22
  have hmk := run_make_row' (P := Try.prog) 22 23 (.slice none 0 0) 24 Try.underlying22 Try.info23 rfl .i64 .i64 n (by omega) (by omega)
  go_enter Try.func6, Try.ntmps6
  go_wp2
  refine wp_loop_rounds 1 ?_
  rw [rounds_succ]
  go_wp2
  go_ret
  exact ⟨rfl, (Below.refl _ _).alloc (Nat.le_refl _) _⟩

theorem Outer.lt {w : World} {a : Option Addr} {n : Nat} {A : Nat → Option Addr} {L C : Nat → Nat} (h : Outer w a n A L C) : ∀ x, a = some x → 0 < n → x.block < w.heap.size := by
  intro x hx hn
  rcases h with h | ⟨b, off, rfl, h⟩
  · omega
  · cases hx
    have h0 := h 0 hn
    simp only [World.cell?] at h0
    by_cases hb : b < w.heap.size
    · exact hb
    · rw [Array.getElem?_eq_none (by omega)] at h0
      simp at h0

/-- A list of byte slices in memory. -/
structure Lists (w : World) (a : Option Addr) (n : Nat) (A : Nat → Option Addr) (L C : Nat → Nat) (Z : Nat → Nat → Int) : Prop where
  outer : Outer w a n A L C
  view : ∀ r, r < n → View w (A r) (L r) (Z r)
  nil_ : ∀ r, r < n → A r = none → L r = 0

/-- zzCloneBytesList, whatever list. -/
theorem clones_any (a : Option Addr) (n c : Nat) (A : Nat → Option Addr) (L C : Nat → Nat) (Z : Nat → Nat → Int) (w : World) (hn : n ≤ 65536) (h : Lists w a n A L C Z) (hL : ∀ r, r < n → L r ≤ 1048576) (hnil : a = none → n = 0) :
    Calls Try.prog 6 #[.slice a n c] w fun e w' => ∃ a' A', e = .returned (.slice a' n n) ∧ Lists w' a' n A' L L Z ∧ Below w.heap.size w w' := by
  by_cases h0 : n = 0
  · subst h0
    match a with
    | none => exact (clones_nil 0 c w).mono fun e w' ⟨he, hw⟩ => ⟨none, fun _ => none, he, ⟨.inl rfl, fun r hr => absurd hr (by omega), fun r hr => absurd hr (by omega)⟩, hw ▸ Below.refl _ _⟩
    | some x => exact (clones_zero x 0 c (Nat.le_refl _) w).mono fun e w' ⟨he, hw⟩ => ⟨_, fun _ => none, he, ⟨.inl rfl, fun r hr => absurd hr (by omega), fun r hr => absurd hr (by omega)⟩, hw⟩
  · have hlt := h.outer.lt
    rcases h.outer with ho | ⟨b, off, rfl, ho⟩
    · exact absurd ho h0
    · exact (clones_some b off n c A L C Z w hn (hlt _ rfl (by omega)) ho hL h.view h.nil_).mono fun e w' ⟨he, A', hl⟩ =>
        ⟨_, A', he, ⟨.inr ⟨_, 0, rfl, fun r hr => by rw [Nat.zero_add, hl.row.cell hr, if_pos hr]⟩, hl.view, hl.nil_⟩, hl.below⟩

end Go.Proofs.Qxb6602601a
