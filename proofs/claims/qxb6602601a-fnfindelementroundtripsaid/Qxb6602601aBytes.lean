import Derived.Test.Qxb6602601aSame
namespace Go.Proofs.Qxb6602601a
open Go.RowKit
set_option linter.unusedVariables false

/-- The outer cells of a slice of byte slices. -/
def Outer (w : World) (a : Option Addr) (n : Nat) (A : Nat → Option Addr) (L C : Nat → Nat) : Prop :=
  n = 0 ∨ ∃ b off, a = some ⟨b, off, none⟩ ∧ ∀ r, r < n → w.cell? ⟨b, off + r, none⟩ = some (.slice (A r) (L r) (C r))

/-- The call returns a bool: true only if Q. -/
def IsBool (e : Ending) (Q : Prop) : Prop := ∃ r : Bool, e = .returned (.bool r) ∧ (r = true → Q)

set_option maxRecDepth 100000 in
theorem bytes_none (o : Bool) (u : Int) (a a3 : Option Addr) (c n3 c3 : Nat) (w : World) (h3 : n3 ≤ maxLen) :
    Calls Try.prog 5 #[.bool o, .int .u8 u, .slice a 0 c, .slice a3 n3 c3] w fun e w' => IsBool e (n3 ≤ 1048576) ∧ w' = w := by
  unfold maxLen at h3
  by_cases h : n3 ≤ 1048576
  all_goals
    go_enter Try.func5, Try.ntmps5
    go_wp2
    refine wp_loop_rounds 1 ?_
    rw [rounds_succ]
    go_wp2
    go_ret
    exact ⟨⟨_, rfl, fun hr => by first | omega | cases hr⟩, rfl⟩

set_option maxRecDepth 100000 in
set_option maxHeartbeats 1000000 in
theorem bytes_some (o : Bool) (u : Int) (b off n c : Nat) (A : Nat → Option Addr) (L C : Nat → Nat) (a3 : Option Addr) (n3 c3 : Nat) (w : World) (hn : n ≤ maxLen) (h3 : n3 ≤ maxLen) (hL : ∀ r, r < n → L r ≤ maxLen)
    (hR : ∀ r, r < n → w.cell? ⟨b, off + r, none⟩ = some (.slice (A r) (L r) (C r))) :
    Calls Try.prog 5 #[.bool o, .int .u8 u, .slice (some ⟨b, off, none⟩) n c, .slice a3 n3 c3] w fun e w' => IsBool e (n ≤ 1048576 ∧ n3 ≤ 1048576 ∧ ∀ r, r < n → L r ≤ 1048576) ∧ w' = w := by
  unfold maxLen at h3 hn hL
  by_cases hbig : n ≤ 1048576
  · go_enter Try.func5, Try.ntmps5
    go_wp2
    go_loopg [9, 10] n (fun k s i wr => ∃ (t : Nat) (z : Int), t + k = n ∧ i = .int .i64 t ∧ s = .int .i64 z ∧ 0 ≤ z ∧ z ≤ 1048576 ∧ wr = w ∧ Aside (∀ r, r < t → L r ≤ 1048576))
    case atStart => exact ⟨0, n, by omega, rfl, rfl, by omega, by omega, rfl, fun r hr => absurd hr (by omega)⟩
    case round =>
      obtain ⟨t, z, ht, rfl, rfl, hz0, hz1, rfl, hA⟩ := hrel
      by_cases hlt : t < n
      · have hc := hR t hlt
        have hl := hL t hlt
        have hlt' : (t : Int) < (n : Int) := by omega
        clear hR hL
        by_cases h1 : L t ≤ 1048576
        · by_cases h2 : z + (L t : Int) ≤ 1048576
          · go_wp2
            go_roundg (gk - 1)
            case measure => omega
            case rel => exact ⟨t + 1, _, by omega, by go_num, rfl, by omega, by omega, rfl, fun r hr => by rcases Nat.lt_succ_iff_lt_or_eq.1 hr with h | h; exact hA.out r h; subst h; exact h1⟩
          · go_wp2
            go_ret
            exact ⟨⟨_, rfl, fun hr => by first | (exact ⟨hbig, by omega, fun r hr => hA.out r (by omega)⟩) | cases hr⟩, rfl⟩
        · go_wp2
          go_ret
          exact ⟨⟨_, rfl, fun hr => by first | (exact ⟨hbig, by omega, fun r hr => hA.out r (by omega)⟩) | cases hr⟩, rfl⟩
      · clear hR hL
        by_cases h4 : n3 ≤ 1048576
        · by_cases h5 : z + (n3 : Int) ≤ 1048576
          all_goals
            go_wp2
            go_ret
            exact ⟨⟨_, rfl, fun hr => by first | (exact ⟨hbig, by omega, fun r hr => hA.out r (by omega)⟩) | cases hr⟩, rfl⟩
        · go_wp2
          go_ret
          exact ⟨⟨_, rfl, fun hr => by first | (exact ⟨hbig, by omega, fun r hr => hA.out r (by omega)⟩) | cases hr⟩, rfl⟩
  · go_enter Try.func5, Try.ntmps5
    go_wp2
    go_ret
    exact ⟨⟨_, rfl, fun hr => by first | (exact ⟨hbig, by omega, fun r hr => hA.out r (by omega)⟩) | cases hr⟩, rfl⟩

theorem bytes_any (o : Bool) (u : Int) (a : Option Addr) (n c : Nat) (A : Nat → Option Addr) (L C : Nat → Nat) (a3 : Option Addr) (n3 c3 : Nat) (w : World) (hn : n ≤ maxLen) (h3 : n3 ≤ maxLen) (hL : ∀ r, r < n → L r ≤ maxLen)
    (hR : Outer w a n A L C) :
    Calls Try.prog 5 #[.bool o, .int .u8 u, .slice a n c, .slice a3 n3 c3] w fun e w' => IsBool e (n ≤ 1048576 ∧ n3 ≤ 1048576 ∧ ∀ r, r < n → L r ≤ 1048576) ∧ w' = w := by
  rcases hR with rfl | ⟨b, off, rfl, hR⟩
  · exact (bytes_none o u a a3 c n3 c3 w h3).mono fun e w' ⟨⟨r, he, hr⟩, hw⟩ => ⟨⟨r, he, fun h => ⟨by omega, hr h, fun r hr => absurd hr (by omega)⟩⟩, hw⟩
  · exact bytes_some o u b off n c A L C a3 n3 c3 w hn h3 hL hR

theorem Try.info23 : (Try.prog.info? 23).map (fun i => (i.zero, i.size, i.bytes)) = some (some (.slice none 0 0), 1, 24) := by kernel_rfl

theorem View.below {B : Nat} {w w' : World} {a : Option Addr} {n : Nat} {Z : Nat → Int} (h : View w a n Z) (hb : Below B w w') (hB : ∀ x, a = some x → 0 < n → x.block < B) : View w' a n Z := by
  rcases h with h | ⟨b, off, rfl, h⟩
  · exact .inl h
  · by_cases h0 : n = 0
    · exact .inl h0
    · exact .inr ⟨b, off, rfl, fun i hi => (hb.cell (p := ⟨b, off + i, none⟩) (hB ⟨b, off, none⟩ rfl (by omega))).trans (h i hi)⟩

theorem View.lt {w : World} {a : Option Addr} {n : Nat} {Z : Nat → Int} (h : View w a n Z) : ∀ x, a = some x → 0 < n → x.block < w.heap.size := by
  intro x hx hn
  rcases h with h | ⟨b, off, rfl, h⟩
  · omega
  · cases hx
    have h0 := h 0 hn
    simp only [World.cell?] at h0
    by_cases hb : b < w.heap.size
    · exact hb
    · rw [Array.getElem?_eq_none (by omega)] at h0
      simp at h0

set_option maxRecDepth 100000 in
theorem clone_zero (x : Addr) (n c : Nat) (h0 : n ≤ 0) (w : World) :
    Calls Try.prog 7 #[.slice (some x) n c] w fun e w' => e = .returned (.slice (some ⟨w.heap.size, 0, none⟩) n n) ∧ Below w.heap.size w w' := by
  have hq := fun (wx : World) (a : Option Addr) (n c : Nat) => Lib.run_eql_slice_nil (P := Try.prog) wx 23 5 a n c 0 0 Try.underlying23
  have hmk := run_make_row' (P := Try.prog) 23 5 (.int .u8 0) 1 Try.underlying23 Try.info5 rfl   .i64 .i64 n (by omega) (by omega)
  go_enter Try.func7, Try.ntmps7
  go_wp2
  refine wp_loop_rounds 1 ?_
  rw [rounds_succ]
  go_wp2
  go_ret
  exact ⟨rfl, (Below.refl _ _).alloc (Nat.le_refl _) _⟩

/-- zzCloneBytes, whatever slice: a slice of the same bytes. -/
theorem clone_any (a : Option Addr) (n c : Nat) (Z : Nat → Int) (w : World) (hn : n ≤ 1048576) (h : View w a n Z) (hnil : a = none → n = 0) :
    Calls Try.prog 7 #[.slice a n c] w fun e w' => ∃ a', e = .returned (.slice a' n n) ∧ View w' a' n Z ∧ (a' = none → n = 0) ∧ (∀ x, a' = some x → w.heap.size ≤ x.block) ∧ Below w.heap.size w w' := by
  by_cases h0 : n = 0
  · subst h0
    match a with
    | none => exact (clone_nil 0 c w).mono fun e w' ⟨he, hw⟩ => ⟨none, he, .inl rfl, fun _ => rfl, (fun x hx => by cases hx), hw ▸ Below.refl _ _⟩
    | some x => exact (clone_zero x 0 c (Nat.le_refl _) w).mono fun e w' ⟨he, hw⟩ => ⟨_, he, .inl rfl, fun _ => rfl, (fun x hx => by cases hx; exact Nat.le_refl _), hw⟩
  · have hlt := h.lt
    rcases h with h | ⟨b, off, rfl, h⟩
    · exact absurd h h0
    · exact (clone_some b off n c Z w hn (hlt _ rfl (by omega)) h).mono fun e w' ⟨he, hr, hw⟩ => ⟨_, he, .inr ⟨_, 0, rfl, fun i hi => by rw [Nat.zero_add]; exact hr.cell hi⟩, (fun h => by cases h), (fun x hx => by cases hx; exact Nat.le_refl _), hw⟩

end Go.Proofs.Qxb6602601a
