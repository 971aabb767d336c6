import Derived.Test.Qxb6602714aNum
namespace Go.Proofs.Qxb6602714a
open Go.RowKit
set_option linter.unusedVariables false

/-- zzBytes. -/
theorem bytes_yes (a : Option Addr) (n c : Nat) (w : World) (h : n ≤ 1048576) :
    Calls Try.prog 11 #[.slice a n c] w fun e w' => e = .returned (.bool true) ∧ w = w' := by
  go_enter Try.func11, Try.ntmps11
  go_wp2
  go_ret
  exact ⟨rfl, rfl⟩
theorem bytes_no (a : Option Addr) (n c : Nat) (w : World) (hn : n ≤ maxLen) (h : ¬ n ≤ 1048576) :
    Calls Try.prog 11 #[.slice a n c] w fun e w' => e = .returned (.bool false) ∧ w = w' := by
  unfold maxLen at hn
  go_enter Try.func11, Try.ntmps11
  go_wp2
  go_ret
  exact ⟨rfl, rfl⟩

/-- copy(zzc, text) where zzc has just been made as long as text. -/
theorem copy_all (w : World) (n c : Nat) (x : Addr) (Z : Nat → Int) (hZ : ∀ i, i < n → w.cell? (x.add i) = some (.int .u8 (Z i))) :
    ∃ w1, (Builtin.copy_ #[25, 25] 3 #[.slice (some ⟨w.heap.size, 0, none⟩) n n, .slice (some x) n c]).run Try.prog (w.alloc (.cells (madeCells #[.int .u8 0] n) 5)) = .ok (.int .i64 n) w1 ∧ w1.rowIs w.heap.size 5 n (fun i => .int .u8 (Z i)) ∧ Below w.heap.size w w1 := by
  have hlen : ((List.range n).map (fun i => Value.int .u8 (Z i))).length = n := by simp
  have hmade : (madeCells #[Value.int .u8 0] n).size = n := size_madeCells _ _
  have hg : (w.alloc (.cells (madeCells #[.int .u8 0] n) 5)).heap[w.heap.size]? = some (.cells (madeCells #[.int .u8 0] n) 5 (0, 0)) := Deep.blk_alloc_new _ _
  have hrun := run_copy_row (P := Try.prog) (w.alloc (.cells (madeCells #[.int .u8 0] n) 5)) 25 25 3 5 w.heap.size 0 n n x n c (madeCells #[.int .u8 0] n) 5 ((List.range n).map (fun i => Value.int .u8 (Z i))) Try.underlying25 (by kernel_rfl) hg
    (by rw [hlen]; exact (Nat.min_self n).symm) (fun j v hj => ?_) (by rw [hlen, hmade]; omega) (fun v hv => ?_)
  · rw [hlen] at hrun
    refine ⟨_, hrun, ⟨_, setRow_heap _ _ _ _ _ _ hg, ?_, fun i hi => ?_⟩, below_setRow ((Below.refl _ _).alloc (Nat.le_refl _) _) (Nat.le_refl _) _⟩
    · simp [hmade]
    · rw [List.getElem?_toArray]
      simp only [List.take_zero, List.nil_append]
      rw [List.getElem?_append_left (by rw [hlen]; exact hi), List.getElem?_map, List.getElem?_range hi]
      rfl
  · have hjn : j < n := by
      rcases Nat.lt_or_ge j n with h | h
      · exact h
      · rw [List.getElem?_eq_none (by omega)] at hj; cases hj
    rw [List.getElem?_map, List.getElem?_range hjn] at hj
    simp at hj
    subst hj
    have h1 := hZ j hjn
    have hlt : (x.add j).block < w.heap.size := by
      simp only [World.cell?] at h1
      rcases Nat.lt_or_ge (x.add j).block w.heap.size with h | h
      · exact h
      · rw [Array.getElem?_eq_none h] at h1; simp at h1
    exact (World.cell?_of_block (w := w) (Below.heap_alloc _ _ _ hlt)).trans h1
  · obtain ⟨i, _, rfl⟩ := List.mem_map.1 hv
    rfl

theorem match_big (a : Option Addr) (n c : Nat) (w : World) (hn : n ≤ maxLen) (h : ¬ n ≤ 65536) :
    Calls Try.prog 5 #[.slice a n c] w fun e w' => e = .returned (.bool true) ∧ Below w.heap.size w w' := by
  by_cases h2 : n ≤ 1048576
  · have hb := bytes_yes a n c w h2
    go_enter Try.func5, Try.ntmps5
    go_wp2_with (go_at_call 11; refine hb.mono ?_; rintro e w' ⟨rfl, rfl⟩)
    go_ret
    exact ⟨rfl, Below.refl _ _⟩
  · have hb := bytes_no a n c w hn h2
    go_enter Try.func5, Try.ntmps5
    go_wp2_with (go_at_call 11; refine hb.mono ?_; rintro e w' ⟨rfl, rfl⟩)
    go_ret
    exact ⟨rfl, Below.refl _ _⟩

theorem match_nil (w : World) : Calls Try.prog 5 #[.slice none 0 0] w fun e w' => e = .returned (.bool true) ∧ Below w.heap.size w w' := by
  have hb := bytes_yes none 0 0 w (by omega)
  have hz := zz_yes none 0 0 (fun _ => 0) w (by omega) (.inl rfl) (fun i hi => absurd hi (by omega))
  rw [V_zero] at hz
  have hq := fun (wx : World) (a : Option Addr) (n c : Nat) => run_neq_slice_nil_any (P := Try.prog) wx 25 5 a n c 0 0 Try.underlying25
  go_enter Try.func5, Try.ntmps5
  go_wp2_with (go_at_call 11; refine hb.mono ?_; rintro e w' ⟨rfl, rfl⟩)
  refine wp_loop_rounds 1 ?_
  rw [rounds_succ]
  go_wp2
  refine wp_loop_rounds 1 ?_
  rw [rounds_succ]
  go_wp2_with (go_at_call 12; refine hz.mono ?_; rintro e w' ⟨rfl, hw⟩; obtain rfl := hw.symm)
  go_ret
  exact ⟨rfl, Below.refl _ _⟩

set_option maxHeartbeats 1000000 in
/-- A text of digits alone. -/
theorem match_yes (x : Addr) (n c : Nat) (Z : Nat → Int) (w : World) (hn : n ≤ 65536) (hZ : ∀ i, i < n → w.cell? (x.add i) = some (.int .u8 (Z i))) (hd : ∀ i, i < n → 48 ≤ Z i ∧ Z i ≤ 57) :
    Calls Try.prog 5 #[.slice (some x) n c] w fun e w' => e = .returned (.bool true) ∧ Below w.heap.size w w' := by
  have hb := bytes_yes (some x) n c w (by omega)
  have hq := fun (wx : World) (a : Option Addr) (n c : Nat) => run_neq_slice_nil_any (P := Try.prog) wx 25 5 a n c 0 0 Try.underlying25
  have hmk := run_make_row' (P := Try.prog) 25 5 (.int .u8 0) 1 Try.underlying25 Try.info5 rfl .i64 .i64 n (by omega) (by omega)
  obtain ⟨w1, hcp, hrow, hbel⟩ := copy_all w n c x Z hZ
  go_enter Try.func5, Try.ntmps5
  go_wp2_with (go_at_call 11; refine hb.mono ?_; rintro e w' ⟨rfl, rfl⟩)
  clear hZ hb hmk hcp
  go_loopg [4, 5] n (fun k r i wr => ∃ t : Nat, t + k = n ∧ i = .int .i64 t ∧ r = .bool true ∧ w1 = wr)
  case atStart => exact ⟨0, by omega, rfl, rfl, rfl⟩
  case round =>
    obtain ⟨t, ht, rfl, rfl, rfl⟩ := hrel
    by_cases hlt : t < n
    · have hc := hrow.cell hlt
      have hdt := hd t hlt
      have hlt' : (t : Int) < (n : Int) := by omega
      clear hd
      go_wp2
      go_roundg (gk - 1)
      case measure => omega
      case rel => exact ⟨t + 1, by omega, by go_num, rfl, rfl⟩
    · go_wp2
      clear ht hlt
      go_loopg [6, 8, 9] n (fun k s p i wr => ∃ (t : Nat) (j : Int), t + k = n ∧ j + 1 = (k : Int) ∧ i = .int .i64 j ∧ s = .int .i64 (Rw Z n t) ∧ p = .int .i64 (Pw t) ∧ w1 = wr)
      case atStart => exact ⟨0, _, by omega, by omega, rfl, by rw [Rw_zero], by rw [Pw_zero], rfl⟩
      case round =>
        obtain ⟨t, j, ht, hj, rfl, rfl, rfl, rfl⟩ := hrel
        cases gk with
        | zero =>
          obtain rfl : j = -1 := by omega
          obtain rfl : t = n := by omega
          have hzz := zz_yes (some ⟨w.heap.size, 0, none⟩) t t Z w1 (by omega) (.inr ⟨_, 0, rfl, fun i hi => by rw [Nat.zero_add]; exact hrow.cell hi⟩) hd
          rw [V_Rw] at hzz
          clear hd hj ht
          go_wp2_with (go_at_call 12; refine hzz.mono ?_; rintro e w' ⟨rfl, hw⟩; obtain rfl := hw.symm)
          go_ret
          exact ⟨rfl, hbel⟩
        | succ m =>
          obtain rfl : j = (m : Int) := by omega
          have hm : m < n := by omega
          have hc := hrow.cell hm
          have hdt := hd m hm
          have hm' : (m : Int) < (n : Int) := by omega
          have hR := Rw_step Z n t m (by omega)
          have HR : Aside (wrap64 (Rw Z n t + wrap64 ((Z m - 48) * Pw t)) = Rw Z n (t + 1)) := hR
          clear hR hd hj
          go_wp2
          go_roundg m
          case measure => omega
          case rel => exact ⟨t + 1, _, by omega, by omega, rfl, by rw [← HR.out], by rw [← Pw_step], rfl⟩

set_option maxHeartbeats 1000000 in
/-- A text with a byte that is no digit. -/
theorem match_no (x : Addr) (n c : Nat) (Z : Nat → Int) (w : World) (hn : n ≤ 65536) (hZ : ∀ i, i < n → w.cell? (x.add i) = some (.int .u8 (Z i))) (hby : ∀ i, 0 ≤ Z i ∧ Z i ≤ 255) (q : Nat) (hqn : q < n) (hno : ¬ (48 ≤ Z q ∧ Z q ≤ 57)) :
    Calls Try.prog 5 #[.slice (some x) n c] w fun e w' => e = .returned (.bool true) ∧ Below w.heap.size w w' := by
  have hb := bytes_yes (some x) n c w (by omega)
  have hq := fun (wx : World) (a : Option Addr) (n c : Nat) => run_neq_slice_nil_any (P := Try.prog) wx 25 5 a n c 0 0 Try.underlying25
  have hmk := run_make_row' (P := Try.prog) 25 5 (.int .u8 0) 1 Try.underlying25 Try.info5 rfl .i64 .i64 n (by omega) (by omega)
  obtain ⟨w1, hcp, hrow, hbel⟩ := copy_all w n c x Z hZ
  have HN : Aside (¬ (48 ≤ Z q ∧ Z q ≤ 57)) := hno
  clear hno
  go_enter Try.func5, Try.ntmps5
  go_wp2_with (go_at_call 11; refine hb.mono ?_; rintro e w' ⟨rfl, rfl⟩)
  clear hZ hb hmk hcp
  go_loopg [4, 5] n (fun k r i wr => ∃ (t : Nat) (z : Bool), t + k = n ∧ i = .int .i64 t ∧ r = .bool z ∧ Aside (q < t → z = false) ∧ w1 = wr)
  case atStart => exact ⟨0, true, by omega, rfl, rfl, fun h => absurd h (by omega), rfl⟩
  case round =>
    obtain ⟨t, z, ht, rfl, rfl, hz, rfl⟩ := hrel
    by_cases hlt : t < n
    · have hc := hrow.cell hlt
      have hbt := hby t
      have hlt' : (t : Int) < (n : Int) := by omega
      clear hby
      by_cases h1 : Z t < 48
      · go_wp2
        go_roundg (gk - 1)
        case measure => omega
        case rel => exact ⟨t + 1, false, by omega, by go_num, rfl, fun _ => rfl, rfl⟩
      · by_cases h2 : 57 < Z t
        · go_wp2
          go_roundg (gk - 1)
          case measure => omega
          case rel => exact ⟨t + 1, false, by omega, by go_num, rfl, fun _ => rfl, rfl⟩
        · have hne : t ≠ q := fun e => HN.out (by subst e; exact ⟨by omega, by omega⟩)
          go_wp2
          go_roundg (gk - 1)
          case measure => omega
          case rel => exact ⟨t + 1, z, by omega, by go_num, rfl, fun h => hz.out (by omega), rfl⟩
    · obtain rfl : z = false := hz.out (by omega)
      have hzz := zz_no (some ⟨w.heap.size, 0, none⟩) n n Z w1 (by omega) (.inr ⟨_, 0, rfl, fun i hi => by rw [Nat.zero_add]; exact hrow.cell hi⟩) hby q hqn HN.out
      clear hby hz
      go_wp2_with (go_at_call 12; refine hzz.mono ?_; rintro e w' ⟨rfl, hw⟩; obtain rfl := hw.symm)
      go_ret
      exact ⟨rfl, hbel⟩

end Go.Proofs.Qxb6602714a
