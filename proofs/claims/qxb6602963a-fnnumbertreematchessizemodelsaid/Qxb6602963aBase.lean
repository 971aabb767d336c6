import Derived.Test.Qxb6602963aRows
import Derived.Test.Qxb6602963aDfs
import Derived.WalkKit
import Derived.WalkSpells
import Derived.WalkLawsBesides
import Derived.Deep.OwnRows
import Derived.Deep.LoopGhost
import Derived.Deep.QuietTactic
import Derived.BigQuiet
import Derived.Deep.DeepCutAuto
namespace Go.Proofs.Qxb6602963a
open Go.RowKit
set_option linter.unusedVariables false

theorem Try.info21 : (Try.prog.info? 21).map (fun i => (i.zero, i.size, i.bytes)) = some (some (.int .i32 0), 1, 4) := by kernel_rfl

theorem if_step {α : Type} (t i : Nat) (f : Nat → α) (z : α) : (if i = t then f t else if i < t then f i else z) = if i < t + 1 then f i else z := by
  by_cases e : i = t
  · subst e; simp
  · by_cases h : i < t
    · rw [if_neg e, if_pos h, if_pos (by omega)]
    · rw [if_neg e, if_neg h, if_neg (by omega)]

set_option maxHeartbeats 400000 in
theorem clone_some (b off n c : Nat) (Z : Nat → Int) (w : World) (hn : n ≤ 1048576) (hb : b < w.heap.size) (hZ : ∀ i, i < n → w.cell? ⟨b, off + i, none⟩ = some (.int .i32 (Z i))) :
    Calls Try.prog 11 #[.slice (some ⟨b, off, none⟩) n c] w fun e w' => e = .returned (.slice (some ⟨w.heap.size, 0, none⟩) n n) ∧ w'.rowIs w.heap.size 21 n (fun i => .int .i32 (Z i)) ∧ Below w.heap.size w w' := by
  have hq := fun (wx : World) (a : Option Addr) (n c : Nat) => Lib.run_eql_slice_nil (P := Try.prog) wx 22 21 a n c 0 0 Try.underlying22
  have hmk := run_make_row' (P := Try.prog) 22 21 (.int .i32 0) 4 Try.underlying22 Try.info21 rfl .i64 .i64 n (by omega) (by omega)
  go_enter Try.func11, Try.ntmps11
  go_wp2
  go_loopg [4] n (fun k i wr => ∃ t : Nat, t + k = n ∧ i = .int .i64 t ∧ wr.rowIs w.heap.size 21 n (fun j => if j < t then .int .i32 (Z j) else .int .i32 0) ∧ Below w.heap.size w wr)
  case atStart => exact ⟨0, by omega, rfl, (World.rowIs_made _ _ _ _).congr (fun i _ => by simp), (Below.refl _ _).alloc (Nat.le_refl _) _⟩
  case round =>
    obtain ⟨t, ht, rfl, hrow, hbel⟩ := hrel
    by_cases hlt : t < n
    · have hc : wr.cell? ⟨b, off + t, none⟩ = some (.int .i32 (Z t)) := (hbel.cell (by exact hb)).trans (hZ t hlt)
      have hd := hrow.cell hlt
      have hf := hrow.frozen t
      go_wp2
      go_roundg (gk - 1)
      case measure => omega
      case rel => exact ⟨t + 1, by omega, by go_num, (hrow.set t _).congr (fun i _ => if_step t i (fun j => Value.int .i32 (Z j)) _), hbel.setCell (Nat.le_refl _) _⟩
    · go_wp2
      go_ret
      exact ⟨rfl, hrow.congr (fun i hi => if_pos (by omega)), hbel⟩

/-- The call returns one bool or the other. -/
def IsBool (e : Ending) : Prop := ∃ r : Bool, e = .returned (.bool r)

set_option maxHeartbeats 400000 in
theorem bytes_any (n : Int) (a1 a2 : Option Addr) (l1 c1 l2 c2 : Nat) (w : World) (h1 : l1 ≤ maxLen) (h2 : l2 ≤ maxLen) :
    Calls Try.prog 24 #[.int .i64 n, .slice a1 l1 c1, .slice a2 l2 c2] w fun e w' => IsBool e ∧ w = w' := by
  unfold maxLen at h1 h2
  by_cases g1 : l1 ≤ 1048576
  · by_cases g2 : l2 ≤ 1048576
    · by_cases g3 : (l1 : Int) + (l2 : Int) ≤ 1048576
      all_goals
        go_enter Try.func24, Try.ntmps24
        go_wp2
        go_ret
        exact ⟨⟨_, rfl⟩, rfl⟩
    · go_enter Try.func24, Try.ntmps24
      go_wp2
      go_ret
      exact ⟨⟨_, rfl⟩, rfl⟩
  · go_enter Try.func24, Try.ntmps24
    go_wp2
    go_ret
    exact ⟨⟨_, rfl⟩, rfl⟩

end Go.Proofs.Qxb6602963a
