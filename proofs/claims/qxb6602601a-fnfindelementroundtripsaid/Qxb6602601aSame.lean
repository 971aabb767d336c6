import Derived.Test.Qxb6602601aFind2
namespace Go.Proofs.Qxb6602601a
open Go.RowKit
set_option linter.unusedVariables false

set_option maxRecDepth 100000 in
theorem find_empty1 (a : Option Addr) (c : Nat) (id : Int) (w : World) :
    Calls Try.prog 8 #[.int .u16 48862, .slice a 0 c, .int .i64 id] w fun e w' => e = .returned (.tuple #[.slice none 0 0, .bool false]) ∧ w' = w := by
  go_enter Try.func8, Try.ntmps8
  go_wp2
  refine wp_loop_rounds 1 ?_
  rw [rounds_succ]
  go_wp2
  go_ret2
  exact ⟨rfl, rfl⟩

set_option maxRecDepth 100000 in
theorem find_empty2 (p : Int) (hp0 : 4096 ≤ p) (hp1 : p ≤ 4111) (a : Option Addr) (c : Nat) (id : Int) (w : World) :
    Calls Try.prog 8 #[.int .u16 p, .slice a 0 c, .int .i64 id] w fun e w' => e = .returned (.tuple #[.slice none 0 0, .bool false]) ∧ w' = w := by
  have hp : (p == 48862) = false := by simp; omega
  have hpp := prof_ok p hp0 hp1
  go_enter Try.func8, Try.ntmps8
  go_wp2
  refine wp_loop_rounds 1 ?_
  rw [rounds_succ]
  go_wp2
  go_ret2
  exact ⟨rfl, rfl⟩

/-- The profile's form. -/
def Prof (one : Bool) (p : Int) : Prop := (one = true ∧ p = 48862) ∨ (one = false ∧ 4096 ≤ p ∧ p ≤ 4111)

/-- What is told of the extension's bytes. -/
structure Ext (w : World) (a : Option Addr) (b off n c : Nat) (Z : Nat → Int) : Prop where
  small : n ≤ 1048576
  fits : n ≤ c
  cap : c ≤ maxLen
  at_ : n = 0 ∨ a = some ⟨b, off, none⟩
  cell : ∀ i, i < n → w.cell? ⟨b, off + i, none⟩ = some (.int .u8 (Z i))
  byte : ∀ i, 0 ≤ Z i ∧ Z i ≤ 255

theorem Ext.drewN {w : World} {a : Option Addr} {b off n c : Nat} {Z : Nat → Int} (h : Ext w a b off n c Z) (q : Nat) : Ext (w.drewN q) a b off n c Z :=
  ⟨h.small, h.fits, h.cap, h.at_, h.cell, h.byte⟩

theorem find_any (one : Bool) (p : Int) (hp : Prof one p) (a : Option Addr) (b off n c : Nat) (id : Int) (Z : Nat → Int) (w : World) (hx : Ext w a b off n c Z) :
    Calls Try.prog 8 #[.int .u16 p, .slice a n c, .int .i64 id] w fun e w' => FoundAs b off (Plain.findZ one id n Z n 0) e ∧ ∃ q, w' = w.drewN q := by
  rcases hx.at_ with rfl | rfl
  · rcases hp with ⟨rfl, rfl⟩ | ⟨rfl, h1, h2⟩
    · exact (find_empty1 a c id w).mono fun e w' ⟨he, hw⟩ => ⟨foundAs_none rfl he, 0, hw⟩
    · exact (find_empty2 p h1 h2 a c id w).mono fun e w' ⟨he, hw⟩ => ⟨foundAs_none rfl he, 0, hw⟩
  · rcases hp with ⟨rfl, rfl⟩ | ⟨rfl, h1, h2⟩
    · exact find_one b off n c id Z w hx.small hx.fits hx.cap hx.cell hx.byte
    · exact find_two p h1 h2 b off n c id Z w hx.small hx.fits hx.cap hx.cell hx.byte

set_option maxRecDepth 100000 in
/-- zzAbsent: nothing is found: true. -/
theorem absent_yes (one : Bool) (p : Int) (hp : Prof one p) (a : Option Addr) (b off n c : Nat) (id : Int) (Z : Nat → Int) (w : World) (hx : Ext w a b off n c Z) (hno : Plain.findZ one id n Z n 0 = none) :
    Calls Try.prog 10 #[.int .u16 p, .slice a n c, .int .i64 id] w fun e w' => e = .returned (.bool true) ∧ ∃ q, w' = w.drewN q := by
  have hq := fun (wx : World) (a : Option Addr) (n c : Nat) => Lib.run_eql_slice_nil (P := Try.prog) wx 23 5 a n c 0 0 Try.underlying23
  have H : Aside (Plain.findZ one id n Z n 0 = none) := hno
  clear hno
  have hf : ∀ wx : World, Ext wx a b off n c Z → Calls Try.prog 8 #[.int .u16 p, .slice a n c, .int .i64 id] wx fun e w' => e = .returned (.tuple #[.slice none 0 0, .bool false]) ∧ ∃ q, w' = wx.drewN q := by
    intro wx hx
    refine (find_any one p hp a b off n c id Z wx hx).mono fun e w' ⟨he, hw⟩ => ⟨?_, hw⟩
    rcases he with ⟨_, he⟩ | ⟨s, m, a', c', hs, _⟩
    · exact he
    · rw [H.out] at hs; cases hs
  go_enter Try.func10, Try.ntmps10
  go_wp2_with (go_at_call 8; refine (hf _ hx).mono ?_; rintro e w' ⟨rfl, q, rfl⟩)
  go_ret
  exact ⟨rfl, _, rfl⟩

set_option maxRecDepth 100000 in
theorem same_none (a a' : Option Addr) (c c' : Nat) (w : World) :
    Calls Try.prog 9 #[.slice a 0 c, .slice a' 0 c'] w fun e w' => e = .returned (.bool true) ∧ w' = w := by
  go_enter Try.func9, Try.ntmps9
  go_wp2
  refine wp_loop_rounds 1 ?_
  rw [rounds_succ]
  go_wp2
  go_ret
  exact ⟨rfl, rfl⟩

set_option maxRecDepth 100000 in
theorem same_some (b off b' off' n c c' : Nat) (Z : Nat → Int) (w : World) (hn : n ≤ 1048576) (h1 : ∀ i, i < n → w.cell? ⟨b, off + i, none⟩ = some (.int .u8 (Z i))) (h2 : ∀ i, i < n → w.cell? ⟨b', off' + i, none⟩ = some (.int .u8 (Z i))) :
    Calls Try.prog 9 #[.slice (some ⟨b, off, none⟩) n c, .slice (some ⟨b', off', none⟩) n c'] w fun e w' => e = .returned (.bool true) ∧ ∃ q, w' = w.drewN q := by
  go_enter Try.func9, Try.ntmps9
  go_wp2
  go_loopg [5] n (fun k i wr => ∃ t q : Nat, t + k = n ∧ i = .int .i64 t ∧ wr = w.drewN q)
  case atStart => exact ⟨0, 0, by omega, rfl, rfl⟩
  case round =>
    obtain ⟨t, q, ht, rfl, rfl⟩ := hrel
    by_cases hlt : t < n
    · have hc := h1 t hlt
      have hc' := h2 t hlt
      have hlt' : (t : Int) < (n : Int) := by omega
      clear h1 h2
      go_wp2
      go_quiet (fail)
      go_wp2
      go_roundg (gk - 1)
      case measure => omega
      case rel => exact ⟨t + 1, _, by omega, by go_num, rfl⟩
    · go_wp2
      go_ret
      exact ⟨rfl, _, rfl⟩

theorem same_any (a a' : Option Addr) (n c c' : Nat) (Z : Nat → Int) (w : World) (hn : n ≤ 1048576) (h1 : View w a n Z) (h2 : View w a' n Z) :
    Calls Try.prog 9 #[.slice a n c, .slice a' n c'] w fun e w' => e = .returned (.bool true) ∧ ∃ q, w' = w.drewN q := by
  rcases h1 with rfl | ⟨b, off, rfl, h1⟩
  · exact (same_none a a' c c' w).mono fun e w' ⟨he, hw⟩ => ⟨he, 0, hw⟩
  · rcases h2 with rfl | ⟨b', off', rfl, h2⟩
    · exact (same_none _ a' c c' w).mono fun e w' ⟨he, hw⟩ => ⟨he, 0, hw⟩
    · exact same_some b off b' off' n c c' Z w hn h1 h2

end Go.Proofs.Qxb6602601a
