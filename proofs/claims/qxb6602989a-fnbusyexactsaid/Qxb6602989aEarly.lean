import Derived.Test.Qxb6602989aMain
namespace Go.Proofs.Qxb6602989a
open Go.RowKit Go.Maps Go.WideMaps
set_option linter.unusedVariables false

set_option maxRecDepth 100000 in
set_option maxHeartbeats 4000000 in
/-- A column that is too long. -/
theorem main_long (a0 a1 a2 a3 a4 : Option Addr) (n0 n1 n2 n3 n4 c0 c1 c2 c3 c4 : Nat) (S1 S2 S4 : Nat → ByteArray) (A : Nat → Option Addr) (L C : Nat → Nat) (T : Nat → Nat → ByteArray) (w : World) (h : Cols w a1 a2 a3 a4 n1 n2 n3 n4 S1 S2 S4 A L C T) (m0 : n0 ≤ maxLen) (m1 : n1 ≤ maxLen) (m2 : n2 ≤ maxLen) (m3 : n3 ≤ maxLen) (m4 : n4 ≤ maxLen)
    (hbad : ¬ (n0 ≤ 4096 ∧ n1 ≤ 4096 ∧ n2 ≤ 4096 ∧ n3 ≤ 4096 ∧ n4 ≤ 4096)) :
    Calls Try.prog 3 #[.slice a0 n0 c0, .slice a1 n1 c1, .slice a2 n2 c2, .slice a3 n3 c3, .slice a4 n4 c4] w fun e w' => e = .returned (.bool true) ∧ Below w.heap.size w w' := by
  have hbytes := bytes_any a0 a1 a2 a3 a4 n0 n1 n2 n3 n4 c0 c1 c2 c3 c4 S1 S2 S4 A L C T w h m0 m1 m2 m3 m4
  unfold maxLen at m0 m1 m2 m3 m4
  by_cases g0 : n0 ≤ 4096
  · skip
    by_cases g1 : n1 ≤ 4096
    · skip
      by_cases g2 : n2 ≤ 4096
      · skip
        by_cases g3 : n3 ≤ 4096
        · skip
          have g4 : ¬ n4 ≤ 4096 := fun g4 => hbad ⟨g0, g1, g2, g3, g4⟩
          clear hbad
          go_enter Try.func3, Try.ntmps3
          go_wp2_with (go_at_call 7; refine hbytes.mono ?_; rintro e w' ⟨⟨r, rfl, hr⟩, rfl⟩; cases r)
          all_goals (go_ret; exact ⟨rfl, Below.refl _ _⟩)
        · clear hbad
          go_enter Try.func3, Try.ntmps3
          go_wp2_with (go_at_call 7; refine hbytes.mono ?_; rintro e w' ⟨⟨r, rfl, hr⟩, rfl⟩; cases r)
          all_goals (go_ret; exact ⟨rfl, Below.refl _ _⟩)
      · clear hbad
        go_enter Try.func3, Try.ntmps3
        go_wp2_with (go_at_call 7; refine hbytes.mono ?_; rintro e w' ⟨⟨r, rfl, hr⟩, rfl⟩; cases r)
        all_goals (go_ret; exact ⟨rfl, Below.refl _ _⟩)
    · clear hbad
      go_enter Try.func3, Try.ntmps3
      go_wp2_with (go_at_call 7; refine hbytes.mono ?_; rintro e w' ⟨⟨r, rfl, hr⟩, rfl⟩; cases r)
      all_goals (go_ret; exact ⟨rfl, Below.refl _ _⟩)
  · clear hbad
    go_enter Try.func3, Try.ntmps3
    go_wp2_with (go_at_call 7; refine hbytes.mono ?_; rintro e w' ⟨⟨r, rfl, hr⟩, rfl⟩; cases r)
    all_goals (go_ret; exact ⟨rfl, Below.refl _ _⟩)

set_option maxRecDepth 100000 in
set_option maxHeartbeats 4000000 in
/-- Columns of different lengths. -/
theorem main_uneven (a0 a1 a2 a3 a4 : Option Addr) (n0 n1 n2 n3 n4 c0 c1 c2 c3 c4 : Nat) (S1 S2 S4 : Nat → ByteArray) (A : Nat → Option Addr) (L C : Nat → Nat) (T : Nat → Nat → ByteArray) (w : World) (h : Cols w a1 a2 a3 a4 n1 n2 n3 n4 S1 S2 S4 A L C T) (g0 : n0 ≤ 4096) (g1 : n1 ≤ 4096) (g2 : n2 ≤ 4096) (g3 : n3 ≤ 4096) (g4 : n4 ≤ 4096)
    (hbad : ¬ (n1 = n0 ∧ n2 = n0 ∧ n3 = n0 ∧ n4 = n0)) :
    Calls Try.prog 3 #[.slice a0 n0 c0, .slice a1 n1 c1, .slice a2 n2 c2, .slice a3 n3 c3, .slice a4 n4 c4] w fun e w' => e = .returned (.bool true) ∧ Below w.heap.size w w' := by
  have hbytes := bytes_any a0 a1 a2 a3 a4 n0 n1 n2 n3 n4 c0 c1 c2 c3 c4 S1 S2 S4 A L C T w h (by unfold maxLen; omega) (by unfold maxLen; omega) (by unfold maxLen; omega) (by unfold maxLen; omega) (by unfold maxLen; omega)
  have hfit := fit_any a0 a1 a2 a3 a4 n0 n1 n2 n3 n4 c0 c1 c2 c3 c4 S1 S2 S4 A L C T w h g0 g1 g2 g3 g4
  by_cases k1 : n1 = n0
  · skip
    have x1 : ((n1 : Int) != (n0 : Int)) = false := by simp; omega
    by_cases k2 : n2 = n0
    · skip
      have x2 : ((n2 : Int) != (n0 : Int)) = false := by simp; omega
      by_cases k3 : n3 = n0
      · skip
        have x3 : ((n3 : Int) != (n0 : Int)) = false := by simp; omega
        have k4 : ¬ n4 = n0 := fun k4 => hbad ⟨k1, k2, k3, k4⟩
        have x4 : ((n4 : Int) != (n0 : Int)) = true := by simp; omega
        clear hbad k1 k2 k3 k4 h
        go_enter Try.func3, Try.ntmps3
        go_wp2_with (first | (go_at_call 7; refine hbytes.mono ?_; rintro e w' ⟨⟨r, rfl, hr⟩, rfl⟩; cases r) | (go_at_call 8; refine hfit.mono ?_; rintro e w' ⟨⟨r', rfl, hr'⟩, rfl⟩; cases r'))
        all_goals (go_ret; exact ⟨rfl, Below.refl _ _⟩)
      · have x3 : ((n3 : Int) != (n0 : Int)) = true := by simp; omega
        clear hbad k1 k2 k3 h
        go_enter Try.func3, Try.ntmps3
        go_wp2_with (first | (go_at_call 7; refine hbytes.mono ?_; rintro e w' ⟨⟨r, rfl, hr⟩, rfl⟩; cases r) | (go_at_call 8; refine hfit.mono ?_; rintro e w' ⟨⟨r', rfl, hr'⟩, rfl⟩; cases r'))
        all_goals (go_ret; exact ⟨rfl, Below.refl _ _⟩)
    · have x2 : ((n2 : Int) != (n0 : Int)) = true := by simp; omega
      clear hbad k1 k2 h
      go_enter Try.func3, Try.ntmps3
      go_wp2_with (first | (go_at_call 7; refine hbytes.mono ?_; rintro e w' ⟨⟨r, rfl, hr⟩, rfl⟩; cases r) | (go_at_call 8; refine hfit.mono ?_; rintro e w' ⟨⟨r', rfl, hr'⟩, rfl⟩; cases r'))
      all_goals (go_ret; exact ⟨rfl, Below.refl _ _⟩)
  · have x1 : ((n1 : Int) != (n0 : Int)) = true := by simp; omega
    clear hbad k1 h
    go_enter Try.func3, Try.ntmps3
    go_wp2_with (first | (go_at_call 7; refine hbytes.mono ?_; rintro e w' ⟨⟨r, rfl, hr⟩, rfl⟩; cases r) | (go_at_call 8; refine hfit.mono ?_; rintro e w' ⟨⟨r', rfl, hr'⟩, rfl⟩; cases r'))
    all_goals (go_ret; exact ⟨rfl, Below.refl _ _⟩)

/-- FnBusyExact, whatever the columns. -/
theorem main_any (a0 a1 a2 a3 a4 : Option Addr) (n0 n1 n2 n3 n4 c0 c1 c2 c3 c4 : Nat) (Id : Nat → Int) (S1 S2 S4 : Nat → ByteArray) (A : Nat → Option Addr) (L C : Nat → Nat) (T : Nat → Nat → ByteArray) (w : World)
    (v0 : IView w a0 n0 Id) (h : Cols w a1 a2 a3 a4 n1 n2 n3 n4 S1 S2 S4 A L C T) (m0 : n0 ≤ maxLen) (m1 : n1 ≤ maxLen) (m2 : n2 ≤ maxLen) (m3 : n3 ≤ maxLen) (m4 : n4 ≤ maxLen) :
    Calls Try.prog 3 #[.slice a0 n0 c0, .slice a1 n1 c1, .slice a2 n2 c2, .slice a3 n3 c3, .slice a4 n4 c4] w fun e w' => e = .returned (.bool true) ∧ Below w.heap.size w w' := by
  by_cases hl : n0 ≤ 4096 ∧ n1 ≤ 4096 ∧ n2 ≤ 4096 ∧ n3 ≤ 4096 ∧ n4 ≤ 4096
  · obtain ⟨g0, g1, g2, g3, g4⟩ := hl
    by_cases he : n1 = n0 ∧ n2 = n0 ∧ n3 = n0 ∧ n4 = n0
    · obtain ⟨rfl, rfl, rfl, rfl⟩ := he
      exact main_full a0 a1 a2 a3 a4 _ c0 c1 c2 c3 c4 Id S1 S2 S4 A L C T w g0 v0 h
    · exact main_uneven a0 a1 a2 a3 a4 n0 n1 n2 n3 n4 c0 c1 c2 c3 c4 S1 S2 S4 A L C T w h g0 g1 g2 g3 g4 he
  · exact main_long a0 a1 a2 a3 a4 n0 n1 n2 n3 n4 c0 c1 c2 c3 c4 S1 S2 S4 A L C T w h m0 m1 m2 m3 m4 hl

end Go.Proofs.Qxb6602989a
