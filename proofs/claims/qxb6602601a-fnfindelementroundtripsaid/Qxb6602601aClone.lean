import Derived.Test.Qxb6602601aRows
import Derived.WalkKit
import Derived.WalkSpells
import Derived.WalkLawsBesides
import Derived.Deep.OwnRows
import Derived.Deep.LoopGhost
namespace Go.Proofs.Qxb6602601a
open Go.RowKit
set_option linter.unusedVariables false

theorem Try.info5 : (Try.prog.info? 5).map (fun i => (i.zero, i.size, i.bytes)) = some (some (.int .u8 0), 1, 1) := by kernel_rfl

/-- The bytes behind a slice's address: nothing where there are none. -/
def View (w : World) (a : Option Addr) (n : Nat) (Z : Nat → Int) : Prop :=
  n = 0 ∨ ∃ b off, a = some ⟨b, off, none⟩ ∧ ∀ i, i < n → w.cell? ⟨b, off + i, none⟩ = some (.int .u8 (Z i))

theorem if_step {α : Type} (t i : Nat) (f : Nat → α) (z : α) : (if i = t then f t else if i < t then f i else z) = if i < t + 1 then f i else z := by
  by_cases e : i = t
  · subst e; simp
  · by_cases h : i < t
    · rw [if_neg e, if_pos h, if_pos (by omega)]
    · rw [if_neg e, if_neg h, if_neg (by omega)]

set_option maxHeartbeats 400000 in
theorem clone_nil (n c : Nat) (w : World) : Calls Try.prog 7 #[.slice none n c] w fun e w' => e = .returned (.slice none 0 0) ∧ w' = w := by
  have hq := fun (wx : World) (a : Option Addr) (n c : Nat) => Lib.run_eql_slice_nil (P := Try.prog) wx 23 5 a n c 0 0 Try.underlying23
  go_enter Try.func7, Try.ntmps7
  go_wp2
  go_ret
  exact ⟨rfl, rfl⟩

set_option maxHeartbeats 400000 in
theorem clone_some (b off n c : Nat) (Z : Nat → Int) (w : World) (hn : n ≤ 1048576) (hb : b < w.heap.size) (hZ : ∀ i, i < n → w.cell? ⟨b, off + i, none⟩ = some (.int .u8 (Z i))) :
    Calls Try.prog 7 #[.slice (some ⟨b, off, none⟩) n c] w fun e w' => e = .returned (.slice (some ⟨w.heap.size, 0, none⟩) n n) ∧ w'.rowIs w.heap.size 5 n (fun i => .int .u8 (Z i)) ∧ Below w.heap.size w w' := by
  have hq := fun (wx : World) (a : Option Addr) (n c : Nat) => Lib.run_eql_slice_nil (P := Try.prog) wx 23 5 a n c 0 0 Try.underlying23
  have hmk := run_make_row' (P := Try.prog) 23 5 (.int .u8 0) 1 Try.underlying23 Try.info5 rfl .i64 .i64 n (by omega) (by omega)
  go_enter Try.func7, Try.ntmps7
  go_wp2
  go_loopg [4] n (fun k i wr => ∃ t : Nat, t + k = n ∧ i = .int .i64 t ∧ wr.rowIs w.heap.size 5 n (fun j => if j < t then .int .u8 (Z j) else .int .u8 0) ∧ Below w.heap.size w wr)
  case atStart => exact ⟨0, by omega, rfl, (World.rowIs_made _ _ _ _).congr (fun i _ => by simp), (Below.refl _ _).alloc (Nat.le_refl _) _⟩
  case round =>
    obtain ⟨t, ht, rfl, hrow, hbel⟩ := hrel
    by_cases hlt : t < n
    · have hc : wr.cell? ⟨b, off + t, none⟩ = some (.int .u8 (Z t)) := (hbel.cell (by exact hb)).trans (hZ t hlt)
      have hd := hrow.cell hlt
      have hf := hrow.frozen t
      go_wp2
      go_roundg (gk - 1)
      case measure => omega
      case rel => exact ⟨t + 1, by omega, by go_num, (hrow.set t _).congr (fun i _ => if_step t i (fun j => Value.int .u8 (Z j)) _), hbel.setCell (Nat.le_refl _) _⟩
    · go_wp2
      go_ret
      exact ⟨rfl, hrow.congr (fun i hi => if_pos (by omega)), hbel⟩

end Go.Proofs.Qxb6602601a
