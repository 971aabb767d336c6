import Derived.Test.Qxb6602601aMain2
namespace Go.Proofs.Qxb6602601a
open Go.RowKit
set_option linter.unusedVariables false

theorem built_nil {one : Bool} {p : Int} (hp : Prof one p) (w : World) : Built w (.slice none 0 0) p 0 (fun _ => 0) (fun _ _ => 0) :=
  built (n3 := 0) (P := fun _ => 0) hp (B := w.heap.size) (w0 := w) ⟨World.ownsRow_nil _ _ _ _, Below.refl _ _, Nat.le_refl _⟩ (by unfold Plain.Fits; split <;> exact ⟨by omega, fun j hj => absurd hj (by omega)⟩) (by simp [Plain.enc]) (fun _ _ => ⟨Int.le_refl 0, by show (0 : Int) ≤ 255; decide⟩)

set_option maxRecDepth 100000 in
set_option maxHeartbeats 4000000 in
/-- No element at all. -/
theorem main_empty (o : Bool) (u : Int) (hu : 0 ≤ u ∧ u ≤ 255) (a2 : Option Addr) (c2 : Nat) (a3 : Option Addr) (n3 c3 : Nat) (P : Nat → Int) (w : World)
    (hv3 : View w a3 n3 P) (hnil : a3 = none → n3 = 0) (hn3 : n3 ≤ maxLen) :
    Calls Try.prog 3 #[.bool o, .int .u8 u, .slice a2 0 c2, .slice a3 n3 c3] w fun e w' => e = .returned (.bool true) ∧ Below w.heap.size w w' := by
  have hbytes := bytes_any o u a2 0 c2 (fun _ => none) (fun _ => 0) (fun _ => 0) a3 n3 c3 w (Nat.zero_le _) hn3 (fun r hr => absurd hr (by omega)) (.inl rfl)
  have hcls := clones_any a2 0 c2 (fun _ => none) (fun _ => 0) (fun _ => 0) (fun _ _ => 0) w (Nat.zero_le _) ⟨.inl rfl, fun r hr => absurd hr (by omega), fun r hr => absurd hr (by omega)⟩ (fun r hr => absurd hr (by omega)) (fun _ => rfl)
  have hpo := prof_or u
  have hbn := fun {one : Bool} {p : Int} (hp : Prof one p) (w : World) => built_nil hp w
  unfold maxLen at hn3
  cases o with
  | true =>
    go_enter Try.func3, Try.ntmps3
    go_wp2_with (go_at_call 5; refine hbytes.mono ?_; rintro e w' ⟨⟨r, rfl, hr⟩, hw⟩; obtain rfl := hw.symm; cases r)
    all_goals first | (go_ret; exact ⟨rfl, Below.refl _ _⟩) | skip
    obtain ⟨hm2, hm3, hmL⟩ := hr trivial
    clear hr hbytes hmL
    refine wp_loop_rounds 1 ?_
    rw [rounds_succ]
    go_wp2
    refine wp_loop_rounds 1 ?_
    rw [rounds_succ]
    go_wp2_with (first
      | (go_at_call 6; refine hcls.mono ?_; rintro e w1 ⟨a1, A1, rfl, hl1, hb1⟩)
      | (go_at_call 7; refine (clone_any a3 n3 c3 P _ hm3 (hv3.below hb1 hv3.lt) hnil).mono ?_; rintro e w2 ⟨a4, rfl, hp2, hn4, ho4, hb2⟩))
    refine wp_loop_rounds 1 ?_
    rw [rounds_succ]
    go_wp2
    refine wp_loop_rounds 1 ?_
    rw [rounds_succ]
    have hB := hbn (one := true) (p := 48862) (.inl ⟨rfl, rfl⟩) w2
    have hbel : Below w.heap.size w w2 := hb1.trans (hb2.mono hb1.size)
    have hmiss : ∀ (id : Int) k, ¬ (1 ≤ id ∧ id ≤ (0 : Int)) → Calls Try.prog 10 #[.int .u16 48862, .slice none 0 0, .int .i64 id] (w2.drewN k) fun e w' => e = .returned (.bool true) ∧ ∃ m, w' = w2.drewN m := hB.miss
    have hmiss0 : ∀ (id : Int), ¬ (1 ≤ id ∧ id ≤ (0 : Int)) → Calls Try.prog 10 #[.int .u16 48862, .slice none 0 0, .int .i64 id] w2 fun e w' => e = .returned (.bool true) ∧ ∃ m, w' = w2.drewN m := fun id h => hmiss id 0 h
    clear hB hcls hbn hpo
    go_wp2_with (first
      | (go_at_call 10; refine (hmiss _ _ ?hno).mono ?_; (case hno => omega); rintro e w' ⟨rfl, m', rfl⟩)
      | (go_at_call 10; refine (hmiss0 _ ?hno).mono ?_; (case hno => omega); rintro e w' ⟨rfl, m', rfl⟩))
    go_ret
    exact ⟨rfl, below_drewN hbel _⟩
  | false =>
    go_enter Try.func3, Try.ntmps3
    go_wp2_with (go_at_call 5; refine hbytes.mono ?_; rintro e w' ⟨⟨r, rfl, hr⟩, hw⟩; obtain rfl := hw.symm; cases r)
    all_goals first | (go_ret; exact ⟨rfl, Below.refl _ _⟩) | skip
    obtain ⟨hm2, hm3, hmL⟩ := hr trivial
    clear hr hbytes hmL
    refine wp_loop_rounds 1 ?_
    rw [rounds_succ]
    go_wp2
    refine wp_loop_rounds 1 ?_
    rw [rounds_succ]
    go_wp2_with (first
      | (go_at_call 6; refine hcls.mono ?_; rintro e w1 ⟨a1, A1, rfl, hl1, hb1⟩)
      | (go_at_call 7; refine (clone_any a3 n3 c3 P _ hm3 (hv3.below hb1 hv3.lt) hnil).mono ?_; rintro e w2 ⟨a4, rfl, hp2, hn4, ho4, hb2⟩))
    refine wp_loop_rounds 1 ?_
    rw [rounds_succ]
    go_wp2
    refine wp_loop_rounds 1 ?_
    rw [rounds_succ]
    have hB := hbn (one := false) (p := bits .or .u16 4096 (u % 16)) hpo w2
    have hbel : Below w.heap.size w w2 := hb1.trans (hb2.mono hb1.size)
    have hmiss : ∀ (id : Int) k, ¬ (1 ≤ id ∧ id ≤ (0 : Int)) → Calls Try.prog 10 #[.int .u16 (bits .or .u16 4096 (u % 16)), .slice none 0 0, .int .i64 id] (w2.drewN k) fun e w' => e = .returned (.bool true) ∧ ∃ m, w' = w2.drewN m := hB.miss
    have hmiss0 : ∀ (id : Int), ¬ (1 ≤ id ∧ id ≤ (0 : Int)) → Calls Try.prog 10 #[.int .u16 (bits .or .u16 4096 (u % 16)), .slice none 0 0, .int .i64 id] w2 fun e w' => e = .returned (.bool true) ∧ ∃ m, w' = w2.drewN m := fun id h => hmiss id 0 h
    clear hB hcls hbn hpo
    go_wp2_with (first
      | (go_at_call 10; refine (hmiss _ _ ?hno).mono ?_; (case hno => omega); rintro e w' ⟨rfl, m', rfl⟩)
      | (go_at_call 10; refine (hmiss0 _ ?hno).mono ?_; (case hno => omega); rintro e w' ⟨rfl, m', rfl⟩))
    go_ret
    exact ⟨rfl, below_drewN hbel _⟩

end Go.Proofs.Qxb6602601a
