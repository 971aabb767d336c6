import Derived.Test.Qxb6602989aSet
namespace Go.Proofs.Qxb6602989a
open Go.RowKit Go.Maps Go.WideMaps
set_option linter.unusedVariables false

set_option maxRecDepth 100000 in
set_option maxHeartbeats 1000000 in
theorem busy_any (g n : Nat) (f : Nat → Value) (S1 S4 : Nat → ByteArray) (w : World) (hn : n ≤ 4096) (hrow : w.rowIs g 43 (n * 5) f) (hjobs : JobsAt f n S1 S4) (hz : ∀ i, (S4 i).size ≤ maxLen) :
    Calls Try.prog 10 #[.slice (some ⟨g, 0, none⟩) n n] w fun e w' => e = .returned (.map (some w.heap.size)) ∧ w'.ownsMap Try.prog 9 (plainElem Try.prog 4) w.heap.size n (Ds S1 S4 n) ∧ Below w.heap.size w w' := by
  have hmm := @run_makeMap Try.prog
  go_enter Try.func10, Try.ntmps10
  go_wp2
  go_loopg [9] n (fun k i wr => ∃ t : Nat, t + k = n ∧ i = .int .i64 t ∧ wr.ownsMap Try.prog 9 (plainElem Try.prog 4) w.heap.size t (Ds S1 S4 t) ∧ Below w.heap.size w wr)
  case atStart => exact ⟨0, by omega, rfl, World.ownsMap_made _ _ _ _, (Below.refl _ _).alloc (Nat.le_refl _) _⟩
  case round =>
    obtain ⟨t, ht, rfl, hown, hbel⟩ := hrel
    by_cases hlt : t < n
    · have hlt' : (t : Int) < (n : Int) := by omega
      obtain ⟨id, rp, a, l, c, j0, j1, j2, j3, j4⟩ := hjobs t hlt
      have hgl := hrow.lt
      have e0 : wr.cell? ⟨g, t * 5, none⟩ = some (.int .i64 id) := (hbel.cell (by exact hgl)).trans ((hrow.cell (by omega)).trans (by rw [j0]))
      have e1 : wr.cell? ⟨g, t * 5 + 1, none⟩ = some (.string (S1 t)) := (hbel.cell (by exact hgl)).trans ((hrow.cell (by omega)).trans (by rw [j1]))
      have e2 : wr.cell? ⟨g, t * 5 + 2, none⟩ = some (.string rp) := (hbel.cell (by exact hgl)).trans ((hrow.cell (by omega)).trans (by rw [j2]))
      have e3 : wr.cell? ⟨g, t * 5 + 3, none⟩ = some (.slice a l c) := (hbel.cell (by exact hgl)).trans ((hrow.cell (by omega)).trans (by rw [j3]))
      have e4 : wr.cell? ⟨g, t * 5 + 4, none⟩ = some (.string (S4 t)) := (hbel.cell (by exact hgl)).trans ((hrow.cell (by omega)).trans (by rw [j4]))
      have hkey : keyOf Try.prog 9 (.string (S4 t)) = some (.string (S4 t).data.toList) := keyOf_string_mk Try.underlying9 (hz t)
      clear j0 j1 j2 j3 j4
      go_wp2_with (at_mapUpdate; refine wpList_mapUpdate_own _ rfl _ _ _ 28 rfl 9 4 law Try.underlying28 (plainElem (H := Unit) Try.prog 4) w.heap.size t _ rfl (hown.alloc _) (by unfold maxLen; omega) _ _ _ rfl rfl hkey _ [] (plainElem_bool Try.underlying4 true) ?_; intro w1 hown1 hgrow1)
      · go_roundg (gk - 1)
        case measure => omega
        case rel => exact ⟨t + 1, by omega, by go_num, (ds_yes (by assumption)).symm ▸ hown1, (hbel.alloc hbel.size _).grown hgrow1 (by have := hbel.size; simp; omega) (fun j hj => by cases hj; exact Nat.le_refl _)⟩
      · go_roundg (gk - 1)
        case measure => omega
        case rel => exact ⟨t + 1, by omega, by go_num, (ds_no (by assumption)).symm ▸ ((hown.alloc _).mono (by omega)), hbel.alloc hbel.size _⟩
    · obtain rfl : t = n := by omega
      go_wp2
      go_ret
      exact ⟨rfl, hown, hbel⟩

end Go.Proofs.Qxb6602989a
