import Derived.Test.Qxb6602989aFit
namespace Go.Proofs.Qxb6602989a
open Go.RowKit
set_option linter.unusedVariables false

theorem Try.info9 : (Try.prog.info? 9).map (fun i => (i.zero, i.size, i.bytes)) = some (some (.string ⟨#[]⟩), 1, 16) := by kernel_rfl

set_option maxRecDepth 100000 in
theorem copy_nil (n c : Nat) (w : World) : Calls Try.prog 19 #[.slice none n c] w fun e w' => e = .returned (.slice none 0 0) ∧ w' = w := by
  have hq := fun (wx : World) (a : Option Addr) (n c : Nat) => Lib.run_eql_slice_nil (P := Try.prog) wx 23 9 a n c 0 0 Try.underlying23
  go_enter Try.func19, Try.ntmps19
  go_wp2
  go_ret
  exact ⟨rfl, rfl⟩

set_option maxRecDepth 100000 in
set_option maxHeartbeats 400000 in
theorem copy_some (x : Addr) (n c : Nat) (S : Nat → ByteArray) (w : World) (hn : n ≤ 1048576) (hv : SView w (some x) n S) :
    Calls Try.prog 19 #[.slice (some x) n c] w fun e w' => e = .returned (.slice (some ⟨w.heap.size, 0, none⟩) n n) ∧ Below w.heap.size w w' := by
  have hq := fun (wx : World) (a : Option Addr) (n c : Nat) => Lib.run_eql_slice_nil (P := Try.prog) wx 23 9 a n c 0 0 Try.underlying23
  have hmk := run_make_row' (P := Try.prog) 23 9 (.string ⟨#[]⟩) 16 Try.underlying23 Try.info9 rfl .i64 .i64 n (by omega) (by omega)
  go_enter Try.func19, Try.ntmps19
  go_wp2
  go_loopg [4] n (fun k i wr => ∃ (t : Nat) (f : Nat → Value), t + k = n ∧ i = .int .i64 t ∧ wr.rowIs w.heap.size 9 n f ∧ Below w.heap.size w wr)
  case atStart => exact ⟨0, _, by omega, rfl, World.rowIs_made _ _ _ _, (Below.refl _ _).alloc (Nat.le_refl _) _⟩
  case round =>
    obtain ⟨t, f, ht, rfl, hrow, hbel⟩ := hrel
    by_cases hlt : t < n
    · rcases hv with h0 | ⟨b, off, hx, hcs⟩
      · exact absurd h0 (by omega)
      · cases hx
        have hb : b < w.heap.size := by
          have h1 := hcs t hlt
          simp only [World.cell?] at h1
          rcases Nat.lt_or_ge b w.heap.size with h | h
          · exact h
          · rw [Array.getElem?_eq_none h] at h1; simp at h1
        have hc : wr.cell? ⟨b, off + t, none⟩ = some (.string (S t)) := (hbel.cell (by exact hb)).trans (hcs t hlt)
        have hd := hrow.cell hlt
        have hf := hrow.frozen t
        have hlt' : (t : Int) < (n : Int) := by omega
        clear hcs
        go_wp2
        go_roundg (gk - 1)
        case measure => omega
        case rel => exact ⟨t + 1, _, by omega, by go_num, hrow.set t _, hbel.setCell (Nat.le_refl _) _⟩
    · go_wp2
      go_ret
      exact ⟨rfl, hbel⟩

/-- zzCopyStrings, whatever slice: a slice of the same length. -/
theorem copy_any (a : Option Addr) (n c : Nat) (S : Nat → ByteArray) (w : World) (hn : n ≤ 1048576) (hv : SView w a n S) :
    Calls Try.prog 19 #[.slice a n c] w fun e w' => ∃ a' n' c', e = .returned (.slice a' n' c') ∧ Below w.heap.size w w' := by
  cases a with
  | none => exact (copy_nil n c w).mono fun e w' ⟨he, hw⟩ => ⟨_, _, _, he, hw ▸ Below.refl _ _⟩
  | some x => exact (copy_some x n c S w hn hv).mono fun e w' ⟨he, hw⟩ => ⟨_, _, _, he, hw⟩

end Go.Proofs.Qxb6602989a
