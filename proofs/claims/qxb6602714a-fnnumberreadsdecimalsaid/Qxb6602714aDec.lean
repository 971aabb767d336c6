import Derived.Test.Qxb6602714aNum
namespace Go.Proofs.Qxb6602714a
open Go.RowKit
set_option linter.unusedVariables false

/-- The j-th digit from the right. -/
def Dg (n j : Nat) : Nat := n / 10 ^ j % 10

theorem Dg_lt (n j : Nat) : Dg n j < 10 := Nat.mod_lt _ (by decide)

/-- What the digits spell. -/
theorem V_dg (n t : Nat) (Z : Nat → Int) (hZ : ∀ r, r < t → Z r = 48 + (Dg n (t - 1 - r) : Int)) : ∀ r, r ≤ t → V Z r = ((n / 10 ^ (t - r) : Nat) : Int) - ((n / 10 ^ t : Nat) : Int) * 10 ^ r := by
  intro r
  induction r with
  | zero => intro _; simp [V]
  | succ r ih =>
    intro hr
    have e := ih (by omega)
    show V Z r * 10 + (Z r - 48) = _
    rw [e, hZ r (by omega)]
    obtain ⟨m, hm⟩ : ∃ m, t - r = m + 1 := ⟨t - r - 1, by omega⟩
    have e1 : t - (r + 1) = m := by omega
    have e2 : t - 1 - r = m := by omega
    rw [hm, e1, e2]
    unfold Dg
    have e3 : n / 10 ^ (m + 1) = n / 10 ^ m / 10 := by rw [Nat.pow_succ, Nat.div_div_eq_div_mul]
    rw [e3, Int.pow_succ]
    generalize n / 10 ^ m = q
    generalize ((n / 10 ^ t : Nat) : Int) = s
    have : (s * 10 ^ r) * 10 = s * (10 ^ r * 10) := Int.mul_assoc _ _ _
    rw [← this]
    generalize s * 10 ^ r = u
    omega

theorem V_all (n t : Nat) (Z : Nat → Int) (hZ : ∀ r, r < t → Z r = 48 + (Dg n (t - 1 - r) : Int)) (h0 : n / 10 ^ t = 0) : V Z t = (n : Int) := by
  have h := V_dg n t Z hZ t (Nat.le_refl _)
  rw [h0, Nat.sub_self] at h
  simpa using h

theorem small_div {n : Nat} (hn : n < 9223372036854775808) {t : Nat} (ht : 19 ≤ t) : n / 10 ^ t = 0 := by
  apply Nat.div_eq_of_lt
  have h1 : 10 ^ 19 ≤ 10 ^ t := Nat.pow_le_pow_right (by decide) ht
  have h2 : 9223372036854775808 ≤ 10 ^ 19 := by decide
  omega

/-- buf in the midst: the places from k on are filled. -/
def bufAt (n k j : Nat) : Value := if k ≤ j then .int .u8 (48 + (Dg n (23 - j) : Int)) else .int .u8 0

theorem buf_start (n : Nat) (w : World) : (w.alloc (.cells (Array.replicate 24 (.int .u8 0)) 35)).rowIs w.heap.size 35 24 (bufAt n 24) := by
  have h := World.rowIs_alloc w (Array.replicate 24 (.int .u8 0)) 35 (bufAt n 24) (fun i hi => ?_)
  · simpa using h
  · simp at hi
    unfold bufAt
    rw [if_neg (by omega)]
    simp [hi]

theorem buf_step (n k j : Nat) (hk : k < 24) : (if j = k then Value.int .u8 (48 + (Dg n (23 - k) : Int)) else bufAt n (k + 1) j) = bufAt n k j := by
  unfold bufAt
  by_cases e : j = k
  · subst e; simp
  · rw [if_neg e]
    by_cases h : k ≤ j
    · rw [if_pos (by omega), if_pos h]
    · rw [if_neg (by omega), if_neg h]

theorem dg_of {n m j : Nat} (hj : j < 24) (hm : m = n / 10 ^ (24 - (j + 1))) : (48 : Int) + (m : Int) % 10 = 48 + (Dg n (23 - j) : Int) := by
  unfold Dg
  rw [show 24 - (j + 1) = 23 - j by omega] at hm
  rw [← hm]
  omega

theorem div_next {n m j : Nat} (hj : j < 24) (hm : m = n / 10 ^ (24 - (j + 1))) : m / 10 = n / 10 ^ (24 - j) := by
  rw [hm, Nat.div_div_eq_div_mul, ← Nat.pow_succ, show (24 - (j + 1)).succ = 24 - j by omega]

theorem pos_next {n m j : Nat} (hn : n < 9223372036854775808) (hj : j < 24) (hm : m = n / 10 ^ (24 - (j + 1))) (h0 : ¬ m / 10 = 0) : 1 ≤ j := by
  rcases Nat.lt_or_ge 5 j with h | h
  · omega
  · exact absurd ((div_next hj hm).trans (small_div hn (by omega))) h0

theorem row_next {n m j : Nat} {wr w : World} (hj : j < 24) (hm : m = n / 10 ^ (24 - (j + 1))) (hrow : wr.rowIs w.heap.size 35 24 (bufAt n (j + 1))) :
    (wr.setCell ⟨w.heap.size, j, none⟩ (.int .u8 (48 + (m : Int) % 10))).rowIs w.heap.size 35 24 (bufAt n j) :=
  (hrow.set j _).congr (fun i _ => by rw [dg_of hj hm]; exact buf_step n j i hj)

theorem buf_read {n j t q : Nat} (htj : t + j = 24) (hq : q < t) : bufAt n j (j + q) = .int .u8 (48 + (Dg n (t - 1 - q) : Int)) := by
  unfold bufAt
  rw [if_pos (by omega), show 23 - (j + q) = t - 1 - q by omega]

theorem if_step {α : Type} (t i : Nat) (f : Nat → α) (z : α) : (if i = t then f t else if i < t then f i else z) = if i < t + 1 then f i else z := by
  by_cases e : i = t
  · subst e; simp
  · by_cases h : i < t
    · rw [if_neg e, if_pos h, if_pos (by omega)]
    · rw [if_neg e, if_neg h, if_neg (by omega)]

set_option maxHeartbeats 1000000 in
theorem dec_any (n0 : Nat) (w : World) (hn : n0 < 9223372036854775808) :
    Calls Try.prog 13 #[.int .i64 (n0 : Int)] w fun e w' => ∃ (g t : Nat) (Z : Nat → Int), e = .returned (.slice (some ⟨g, 0, none⟩) t t) ∧ t ≤ 24 ∧ (∀ i, i < t → w'.cell? ⟨g, i, none⟩ = some (.int .u8 (Z i))) ∧ (∀ i, i < t → 48 ≤ Z i ∧ Z i ≤ 57) ∧ V Z t = (n0 : Int) ∧ Below w.heap.size w w' := by
  have hb0 := buf_start n0 w
  go_enter Try.func13, Try.ntmps13
  go_wp2
  go_loopg [0, 4] 24 (fun k nv iv wr => ∃ m : Nat, nv = .int .i64 (m : Int) ∧ iv = .int .i64 (k : Int) ∧ k ≤ 24 ∧ 1 ≤ k ∧ m ≤ n0 ∧ Aside (m = n0 / 10 ^ (24 - k)) ∧ wr.rowIs w.heap.size 35 24 (bufAt n0 k) ∧ Below w.heap.size w wr)
  case atStart => exact ⟨n0, rfl, rfl, by omega, by omega, by omega, by show n0 = n0 / 10 ^ 0; simp, hb0, (Below.refl _ _).alloc (Nat.le_refl _) _⟩
  case round =>
    obtain ⟨m, rfl, rfl, hk, hk1, hm, hA, hrow, hbel⟩ := hrel
    clear hb0
    obtain ⟨j, rfl⟩ : ∃ j, gk = j + 1 := ⟨gk - 1, by omega⟩
    have hj : j < 24 := by omega
    have hc := hrow.cell hj
    have hf := hrow.frozen j
    have hj' : (j : Int) < 24 := by omega
    have ej : ((j + 1 : Nat) : Int) - 1 = (j : Int) := by omega
    by_cases h0 : m / 10 = 0
    · obtain ⟨t, htj⟩ : ∃ t, t + j = 24 := ⟨24 - j, by omega⟩
      have hmk := run_make_row' (P := Try.prog) 25 5 (.int .u8 0) 1 Try.underlying25 Try.info5 rfl .i64 .i64 t (by omega) (by omega)
      have es : (24 : Int) - (j : Int) = (t : Int) := by omega
      go_wp2
      have hrow1 := row_next hj hA.out hrow
      have hbel1 : Below w.heap.size w (wr.setCell ⟨w.heap.size, j, none⟩ (.int .u8 (48 + (m : Int) % 10))) := hbel.setCell (Nat.le_refl _) _
      have hsz := hrow1.lt
      have hlast : Aside (n0 / 10 ^ t = 0) := by
        have h1 := div_next hj hA.out
        rw [h0, show 24 - j = t by omega] at h1
        exact h1.symm
      obtain ⟨wm, hwm⟩ : ∃ wm, wm = wr.setCell ⟨w.heap.size, j, none⟩ (.int .u8 (48 + (m : Int) % 10)) := ⟨_, rfl⟩
      have hsm : wr.heap.size = wm.heap.size := by rw [hwm]; simp
      rw [← hwm] at hrow1 hbel1 hsz ⊢
      rw [hsm]
      clear hwm hsm hrow hbel hA hmk hc hf ej h0
      go_loopg [6] t (fun k iv wx => ∃ r : Nat, r + k = t ∧ iv = .int .i64 (r : Int) ∧ wx.rowIs w.heap.size 35 24 (bufAt n0 j) ∧ wx.rowIs wm.heap.size 5 t (fun q => if q < r then .int .u8 (48 + (Dg n0 (t - 1 - q) : Int)) else .int .u8 0) ∧ Below w.heap.size w wx)
      case atStart => exact ⟨0, by omega, rfl, hrow1.alloc _, (World.rowIs_made _ _ _ _).congr (fun i _ => by simp), hbel1.alloc hbel1.size _⟩
      case round =>
        obtain ⟨r, hr, rfl, hbuf, hout, hbx⟩ := hrel
        by_cases hlt : r < t
        · have hcb : wr.cell? ⟨w.heap.size, j + r, none⟩ = some (.int .u8 (48 + (Dg n0 (t - 1 - r) : Int))) := by rw [hbuf.cell (show j + r < 24 by omega), buf_read htj hlt]
          have hco := hout.cell hlt
          have hfo := hout.frozen r
          have hlt' : (r : Int) < (t : Int) := by omega
          have hjr : (j : Int) + (r : Int) < 24 := by omega
          go_wp2
          go_roundg (gk - 1)
          case measure => omega
          case rel => exact ⟨r + 1, by omega, by go_num, hbuf.setOther (by show w.heap.size ≠ wm.heap.size; omega) _, (hout.set r _).congr (fun i _ => if_step r i (fun q => Value.int .u8 (48 + (Dg n0 (t - 1 - q) : Int))) _), hbx.setCell (by show w.heap.size ≤ wm.heap.size; omega) _⟩
        · go_wp2
          go_ret
          refine ⟨_, t, fun q => 48 + (Dg n0 (t - 1 - q) : Int), rfl, by omega, fun i hi => by rw [hout.cell hi, if_pos (by omega)], fun i hi => ?_, V_all n0 t _ (fun _ _ => rfl) hlast.out, hbx⟩
          have := Dg_lt n0 (t - 1 - i)
          show 48 ≤ 48 + (Dg n0 (t - 1 - i) : Int) ∧ 48 + (Dg n0 (t - 1 - i) : Int) ≤ 57
          omega
    · go_wp2
      go_roundg j
      case measure => omega
      case rel => exact ⟨m / 10, by go_num, rfl, by omega, pos_next hn hj hA.out h0, by omega, div_next hj hA.out, row_next hj hA.out hrow, hbel.setCell (Nat.le_refl _) _⟩

end Go.Proofs.Qxb6602714a
