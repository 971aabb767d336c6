import Derived.Test.Qxb6602714aRows
import Derived.Test.Qxb6602714aPlain
import Derived.WalkKit
import Derived.WalkSpells
import Derived.WalkLawsBesides
import Derived.Deep.OwnRows
import Derived.Deep.LoopGhost
import Derived.Laws.CopyOwn
namespace Go.Proofs.Qxb6602714a
open Go.RowKit
set_option linter.unusedVariables false

theorem Try.info5 : (Try.prog.info? 5).map (fun i => (i.zero, i.size, i.bytes)) = some (some (.int .u8 0), 1, 1) := by kernel_rfl

/-- number, all digits: the number they spell, in int's own arithmetic. -/
theorem number_yes (b off n c : Nat) (Z : Nat → Int) (w : World) (hn : n ≤ 1048576) (hZ : ∀ i, i < n → w.cell? ⟨b, off + i, none⟩ = some (.int .u8 (Z i))) (hd : ∀ i, i < n → 48 ≤ Z i ∧ Z i ≤ 57) :
    Calls Try.prog 16 #[.slice (some ⟨b, off, none⟩) n c] w fun e w' => e = .returned (.tuple #[.int .i64 (wrap64 (V Z n)), .bool true]) ∧ w' = w := by
  go_enter Try.func16, Try.ntmps16
  go_wp2
  go_loopg [4, 9] n (fun k s i wr => ∃ t : Nat, t + k = n ∧ i = .int .i64 t ∧ s = .int .i64 (wrap64 (V Z t)) ∧ w = wr)
  case atStart => exact ⟨0, by omega, rfl, by rw [V_zero], rfl⟩
  case round =>
    obtain ⟨t, ht, rfl, rfl, rfl⟩ := hrel
    by_cases hlt : t < n
    · have hc := hZ t hlt
      have hdt := hd t hlt
      have hlt' : (t : Int) < (n : Int) := by omega
      clear hZ hd
      go_wp2
      go_roundg (gk - 1)
      case measure => omega
      case rel => exact ⟨t + 1, by omega, by go_num, by rw [← V_step], rfl⟩
    · obtain rfl : t = n := by omega
      go_wp2
      go_ret2
      exact ⟨rfl, rfl⟩

/-- number, at least one byte that is no digit: (0, false). -/
theorem number_no (b off n c : Nat) (Z : Nat → Int) (w : World) (hn : n ≤ 1048576) (hZ : ∀ i, i < n → w.cell? ⟨b, off + i, none⟩ = some (.int .u8 (Z i))) (hb : ∀ i, 0 ≤ Z i ∧ Z i ≤ 255) (q : Nat) (hq : q < n) (hno : ¬ (48 ≤ Z q ∧ Z q ≤ 57)) :
    Calls Try.prog 16 #[.slice (some ⟨b, off, none⟩) n c] w fun e w' => e = .returned (.tuple #[.int .i64 0, .bool false]) ∧ w' = w := by
  go_enter Try.func16, Try.ntmps16
  go_wp2
  go_loopg [4, 9] n (fun k s i wr => ∃ (t : Nat) (z : Int), t + k = n ∧ t ≤ q ∧ i = .int .i64 t ∧ s = .int .i64 z ∧ w = wr)
  case atStart => exact ⟨0, 0, by omega, by omega, rfl, rfl, rfl⟩
  case round =>
    obtain ⟨t, z, ht, htq, rfl, rfl, rfl⟩ := hrel
    have hlt : t < n := by omega
    have hc := hZ t hlt
    have hbt := hb t
    have hlt' : (t : Int) < (n : Int) := by omega
    have HN : Aside (¬ (48 ≤ Z q ∧ Z q ≤ 57)) := hno
    clear hZ hb hno
    by_cases h1 : Z t < 48
    · go_wp2
      go_ret2
      exact ⟨rfl, rfl⟩
    · by_cases h2 : 57 < Z t
      · go_wp2
        go_ret2
        exact ⟨rfl, rfl⟩
      · have hne : t < q := by
          rcases Nat.lt_or_ge t q with h | h
          · exact h
          · obtain rfl : t = q := by omega
            exact absurd ⟨by omega, by omega⟩ HN.out
        go_wp2
        go_roundg (gk - 1)
        case measure => omega
        case rel => exact ⟨t + 1, _, by omega, by omega, by go_num, rfl, rfl⟩

theorem number_zero (a : Option Addr) (n c : Nat) (h0 : n ≤ 0) (w : World) :
    Calls Try.prog 16 #[.slice a n c] w fun e w' => e = .returned (.tuple #[.int .i64 0, .bool true]) ∧ w' = w := by
  go_enter Try.func16, Try.ntmps16
  go_wp2
  refine wp_loop_rounds 1 ?_
  rw [rounds_succ]
  go_wp2
  go_ret2
  exact ⟨rfl, rfl⟩

/-- The bytes behind a slice's address: nothing where there are none. -/
def View (w : World) (a : Option Addr) (n : Nat) (Z : Nat → Int) : Prop :=
  n = 0 ∨ ∃ b off, a = some ⟨b, off, none⟩ ∧ ∀ i, i < n → w.cell? ⟨b, off + i, none⟩ = some (.int .u8 (Z i))

/-- ZZNumber, all digits. -/
theorem zz_yes (a : Option Addr) (n c : Nat) (Z : Nat → Int) (w : World) (hn : n ≤ 1048576) (hv : View w a n Z) (hd : ∀ i, i < n → 48 ≤ Z i ∧ Z i ≤ 57) :
    Calls Try.prog 12 #[.slice a n c] w fun e w' => e = .returned (.tuple #[.int .i64 (wrap64 (V Z n)), .bool true]) ∧ w' = w := by
  have hnum : ∀ wx, View wx a n Z → Calls Try.prog 16 #[.slice a n c] wx fun e w' => e = .returned (.tuple #[.int .i64 (wrap64 (V Z n)), .bool true]) ∧ wx = w' := by
    intro wx hv
    rcases hv with h0 | ⟨b, off, rfl, h⟩
    · subst h0
      exact (number_zero a 0 c (Nat.le_refl _) wx).mono fun e w' ⟨he, hw⟩ => ⟨by rw [V_zero]; exact he, hw.symm⟩
    · exact (number_yes b off n c Z wx hn h hd).mono fun e w' ⟨he, hw⟩ => ⟨he, hw.symm⟩
  go_enter Try.func12, Try.ntmps12
  go_wp2_with (go_at_call 16; refine (hnum _ hv).mono ?_; rintro e w' ⟨rfl, rfl⟩)
  go_ret2
  exact ⟨rfl, rfl⟩

/-- ZZNumber, not all digits. -/
theorem zz_no (a : Option Addr) (n c : Nat) (Z : Nat → Int) (w : World) (hn : n ≤ 1048576) (hv : View w a n Z) (hb : ∀ i, 0 ≤ Z i ∧ Z i ≤ 255) (q : Nat) (hq : q < n) (hno : ¬ (48 ≤ Z q ∧ Z q ≤ 57)) :
    Calls Try.prog 12 #[.slice a n c] w fun e w' => e = .returned (.tuple #[.int .i64 0, .bool false]) ∧ w' = w := by
  have hnum : ∀ wx, View wx a n Z → Calls Try.prog 16 #[.slice a n c] wx fun e w' => e = .returned (.tuple #[.int .i64 0, .bool false]) ∧ wx = w' := by
    intro wx hv
    rcases hv with h0 | ⟨b, off, rfl, h⟩
    · omega
    · exact (number_no b off n c Z wx hn h hb q hq hno).mono fun e w' ⟨he, hw⟩ => ⟨he, hw.symm⟩
  clear hno
  go_enter Try.func12, Try.ntmps12
  go_wp2_with (go_at_call 16; refine (hnum _ hv).mono ?_; rintro e w' ⟨rfl, rfl⟩)
  go_ret2
  exact ⟨rfl, rfl⟩

end Go.Proofs.Qxb6602714a
