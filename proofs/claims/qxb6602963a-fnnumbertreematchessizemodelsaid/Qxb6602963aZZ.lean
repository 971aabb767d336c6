import Derived.Test.Qxb6602963aNT
namespace Go.Proofs.Qxb6602963a
open Go.RowKit
set_option linter.unusedVariables false

set_option maxRecDepth 100000 in
set_option maxHeartbeats 1000000 in
/-- ZZNumberTree: numberTree's two rows. -/
theorem zz_any (n m k2 b1 b2 : Nat) (vx d : Nat → Nat) (w : World) (hn : n ≤ 65536) (hm : m ≤ 65536) (hm1 : 1 ≤ m) (hk2 : m ≤ k2) (hk3 : k2 ≤ 65536) (htree : Plain.Tree d m) (hb1 : b1 < w.heap.size) (hb2 : b2 < w.heap.size)
    (hvn : ∀ i, i < m → vx i < n) (hvi : ∀ i j, i < m → j < m → vx i = vx j → i = j) (hV : ∀ i, i < m → w.cell? ⟨b1, i, none⟩ = some (.int .i32 (vx i : Int))) (hD : ∀ i, 1 ≤ i → i < m → w.cell? ⟨b2, i, none⟩ = some (.int .i32 (d i : Int))) :
    Calls Try.prog 25 #[.int .i64 (n : Int), .slice (some ⟨b1, 0, none⟩) m m, .slice (some ⟨b2, 0, none⟩) k2 k2] w fun e w' => ∃ (g3 g4 : Nat) (f3 f4 : Nat → Int), e = .returned (.tuple #[.slice (some ⟨g3, 0, none⟩) n n, .slice (some ⟨g4, 0, none⟩) n n]) ∧ w'.rowIs g3 21 n (fun v => .int .i32 (f3 v)) ∧ w'.rowIs g4 21 n (fun v => .int .i32 (f4 v)) ∧
      (∀ j, j < m → f3 (vx j) = Plain.AT d m j ∧ f4 (vx j) = Plain.AT d m j + Plain.S d m j) ∧ (∀ u, (∀ j, j < m → vx j ≠ u) → f3 u = -1 ∧ f4 u = -1) ∧ Below w.heap.size w w' := by
  have hnt := nt_any n m k2 b1 b2 vx d w hn hm hm1 hk2 hk3 htree hb1 hb2 hvn hvi hV hD
  clear hV hD htree hvi hvn
  go_enter Try.func25, Try.ntmps25
  go_wp2_with (go_at_call 28; refine hnt.mono ?_; rintro e w1 ⟨g3, g4, f3, f4, rfl, hp3, hp4, hr1, hr2, hb⟩; clear hnt)
  go_quiet (fail)
  go_wp2
  go_ret2
  exact ⟨g3, g4, f3, f4, rfl, hp3.alloc _, hp4.alloc _, hr1, hr2, below_drewN (hb.alloc hb.size _) _⟩

set_option maxRecDepth 100000 in
set_option maxHeartbeats 1000000 in
/-- The law's own early returns. -/
theorem main_early (n : Int) (a1 a2 : Option Addr) (l1 c1 l2 c2 : Nat) (w : World) (h1 : l1 ≤ maxLen) (h2 : l2 ≤ maxLen) (h : ¬ (l1 ≤ 65536 ∧ l2 ≤ 65536 ∧ 1 ≤ n ∧ n ≤ 65536 ∧ 1 ≤ l1 ∧ l1 ≤ l2)) :
    Calls Try.prog 7 #[.int .i64 n, .slice a1 l1 c1, .slice a2 l2 c2] w fun e w' => e = .returned (.bool true) ∧ Below w.heap.size w w' := by
  have hbytes := bytes_any n a1 a2 l1 c1 l2 c2 w h1 h2
  unfold maxLen at h1 h2
  by_cases g1 : l1 ≤ 65536
  · by_cases g2 : l2 ≤ 65536
    · by_cases g3 : 1 ≤ n
      · by_cases g4 : n ≤ 65536
        · by_cases g5 : 1 ≤ l1
          · have g6 : ¬ l1 ≤ l2 := fun e => h ⟨g1, g2, g3, g4, g5, e⟩
            clear h
            go_enter Try.func7, Try.ntmps7
            go_wp2_with (go_at_call 24; refine hbytes.mono ?_; rintro e w' ⟨⟨r, rfl⟩, rfl⟩; cases r)
            all_goals (go_ret; exact ⟨rfl, Below.refl _ _⟩)
          · clear h
            go_enter Try.func7, Try.ntmps7
            go_wp2_with (go_at_call 24; refine hbytes.mono ?_; rintro e w' ⟨⟨r, rfl⟩, rfl⟩; cases r)
            all_goals (go_ret; exact ⟨rfl, Below.refl _ _⟩)
        · clear h
          go_enter Try.func7, Try.ntmps7
          go_wp2_with (go_at_call 24; refine hbytes.mono ?_; rintro e w' ⟨⟨r, rfl⟩, rfl⟩; cases r)
          all_goals (go_ret; exact ⟨rfl, Below.refl _ _⟩)
      · clear h
        go_enter Try.func7, Try.ntmps7
        go_wp2_with (go_at_call 24; refine hbytes.mono ?_; rintro e w' ⟨⟨r, rfl⟩, rfl⟩; cases r)
        all_goals (go_ret; exact ⟨rfl, Below.refl _ _⟩)
    · clear h
      go_enter Try.func7, Try.ntmps7
      go_wp2_with (go_at_call 24; refine hbytes.mono ?_; rintro e w' ⟨⟨r, rfl⟩, rfl⟩; cases r)
      all_goals (go_ret; exact ⟨rfl, Below.refl _ _⟩)
  · clear h
    go_enter Try.func7, Try.ntmps7
    go_wp2_with (go_at_call 24; refine hbytes.mono ?_; rintro e w' ⟨⟨r, rfl⟩, rfl⟩; cases r)
    all_goals (go_ret; exact ⟨rfl, Below.refl _ _⟩)

end Go.Proofs.Qxb6602963a
