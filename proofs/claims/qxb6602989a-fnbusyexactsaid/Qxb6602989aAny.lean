import Derived.Test.Qxb6602989aBusy
namespace Go.Proofs.Qxb6602989a
open Go.RowKit Go.Maps Go.WideMaps
set_option linter.unusedVariables false

theorem anyB_hit {S1 S4 : Nat → ByteArray} {r : ByteArray} {t n : Nat} (ht : t < n) (h1 : ((S1 t).toList == [105, 110, 95, 112, 114, 111, 103, 114, 101, 115, 115]) = true) (h2 : ((S4 t).toList == r.toList) = true) : anyB S1 S4 r n = true := by
  have h1' : inP S1 t = true := h1
  induction n with
  | zero => omega
  | succ n ih =>
    show (anyB S1 S4 r n || (inP S1 n && ((S4 n).toList == r.toList))) = true
    rcases Nat.lt_succ_iff_lt_or_eq.1 ht with h | h
    · rw [ih h]; rfl
    · subst h; rw [h1', h2]; simp

theorem anyB_no1 {S1 S4 : Nat → ByteArray} {r : ByteArray} {t : Nat} (h1 : ((S1 t).toList == [105, 110, 95, 112, 114, 111, 103, 114, 101, 115, 115]) = false) : anyB S1 S4 r (t + 1) = anyB S1 S4 r t := by
  have h1' : inP S1 t = false := h1
  show (anyB S1 S4 r t || (inP S1 t && ((S4 t).toList == r.toList))) = _
  rw [h1']; simp

theorem anyB_no2 {S1 S4 : Nat → ByteArray} {r : ByteArray} {t : Nat} (h2 : ((S4 t).toList == r.toList) = false) : anyB S1 S4 r (t + 1) = anyB S1 S4 r t := by
  show (anyB S1 S4 r t || (inP S1 t && ((S4 t).toList == r.toList))) = _
  rw [h2]; simp

theorem anyB_yes {S1 S4 : Nat → ByteArray} {r : ByteArray} {t : Nat} (h1 : ((S1 t).toList == [105, 110, 95, 112, 114, 111, 103, 114, 101, 115, 115]) = true) (h2 : ((S4 t).toList == r.toList) = true) : anyB S1 S4 r (t + 1) = true :=
  anyB_hit (by omega) h1 h2

set_option maxRecDepth 100000 in
set_option maxHeartbeats 1000000 in
/-- zzAnyInProgress. -/
theorem any_any (a1 a4 : Option Addr) (n c1 c4 : Nat) (S1 S4 : Nat → ByteArray) (r : ByteArray) (w : World) (hn : n ≤ 4096) (v1 : SView w a1 n S1) (v4 : SView w a4 n S4) :
    Calls Try.prog 11 #[.slice a1 n c1, .slice a4 n c4, .string r] w fun e w' => e = .returned (.bool (anyB S1 S4 r n)) ∧ w = w' := by
  go_enter Try.func11, Try.ntmps11
  go_wp2
  go_loopg [7] n (fun k i wr => ∃ t : Nat, t + k = n ∧ i = .int .i64 t ∧ Aside (anyB S1 S4 r t = false) ∧ w = wr)
  case atStart => exact ⟨0, by omega, rfl, rfl, rfl⟩
  case round =>
    obtain ⟨t, ht, rfl, hA, rfl⟩ := hrel
    by_cases hlt : t < n
    · rcases v1 with h0 | ⟨b1, o1, rfl, q1⟩
      · exact absurd h0 (by omega)
      rcases v4 with h0 | ⟨b4, o4, rfl, q4⟩
      · exact absurd h0 (by omega)
      have e1 := q1 t hlt
      have e4 := q4 t hlt
      have hlt' : (t : Int) < (n : Int) := by omega
      clear q1 q4
      cases h1 : ((S1 t).toList == [105, 110, 95, 112, 114, 111, 103, 114, 101, 115, 115]) with
      | true =>
        cases h2 : ((S4 t).toList == r.toList) with
        | true =>
          have H : Aside (anyB S1 S4 r n = true) := anyB_hit hlt h1 h2
          go_wp2
          go_ret
          exact ⟨by rw [H.out]; rfl, rfl⟩
        | false =>
          have H : Aside (anyB S1 S4 r (t + 1) = anyB S1 S4 r t) := anyB_no2 h2
          go_wp2
          go_roundg (gk - 1)
          case measure => omega
          case rel => exact ⟨t + 1, by omega, by go_num, H.out.trans hA.out, rfl⟩
      | false =>
        have H : Aside (anyB S1 S4 r (t + 1) = anyB S1 S4 r t) := anyB_no1 h1
        go_wp2
        go_roundg (gk - 1)
        case measure => omega
        case rel => exact ⟨t + 1, by omega, by go_num, H.out.trans hA.out, rfl⟩
    · obtain rfl : t = n := by omega
      go_wp2
      go_ret
      exact ⟨by rw [hA.out]; rfl, rfl⟩

set_option maxRecDepth 100000 in
set_option maxHeartbeats 1000000 in
/-- zzDistinctInProgress. -/
theorem distinct_any (a1 a4 : Option Addr) (n c1 c4 : Nat) (S1 S4 : Nat → ByteArray) (w : World) (hn : n ≤ 4096) (v1 : SView w a1 n S1) (v4 : SView w a4 n S4) :
    Calls Try.prog 12 #[.slice a1 n c1, .slice a4 n c4] w fun e w' => e = .returned (.int .i64 (cD S1 S4 n : Int)) ∧ ∃ q, w' = w.drewN q := by
  go_enter Try.func12, Try.ntmps12
  go_wp2
  go_loopg [5, 6] n (fun k s i wr => ∃ t q : Nat, t + k = n ∧ i = .int .i64 t ∧ s = .int .i64 (cD S1 S4 t : Int) ∧ wr = w.drewN q)
  case atStart => exact ⟨0, 0, by omega, rfl, rfl, rfl⟩
  case round =>
    obtain ⟨t, q, ht, rfl, rfl, rfl⟩ := hrel
    by_cases hlt : t < n
    · rcases v1 with h0 | ⟨b1, o1, rfl, q1⟩
      · exact absurd h0 (by omega)
      rcases v4 with h0 | ⟨b4, o4, rfl, q4⟩
      · exact absurd h0 (by omega)
      have e1 := q1 t hlt
      have e4 := q4 t hlt
      have hlt' : (t : Int) < (n : Int) := by omega
      have hcd := cD_le (S1 := S1) (S4 := S4) t
      cases h1 : ((S1 t).toList == [105, 110, 95, 112, 114, 111, 103, 114, 101, 115, 115]) with
      | false =>
        have H : Aside (cD S1 S4 (t + 1) = cD S1 S4 t) := by
          have h1' : inP S1 t = false := h1
          show cD S1 S4 t + (if inP S1 t && !anyB S1 S4 (S4 t) t then 1 else 0) = _
          rw [h1']; simp
        clear q1 q4
        go_wp2
        go_roundg (gk - 1)
        case measure => omega
        case rel => exact ⟨t + 1, q, by omega, by go_num, by rw [H.out], rfl⟩
      | true =>
        have h1' : inP S1 t = true := h1
        have H1 : Aside (inP S1 t = true) := h1'
        clear h1'
        go_wp2
        clear h1
        go_loopg [7, 8] t (fun k z i wr => ∃ u q : Nat, u + k = t ∧ i = .int .i64 u ∧ z = .bool (!anyB S1 S4 (S4 t) u) ∧ wr = w.drewN q)
        case atStart => exact ⟨0, q, by omega, rfl, rfl, rfl⟩
        case round =>
          obtain ⟨u, p, hu, rfl, rfl, rfl⟩ := hrel
          by_cases hul : u < t
          · have f1 := q1 u (by omega)
            have f4 := q4 u (by omega)
            have hul' : (u : Int) < (t : Int) := by omega
            have hun : (u : Int) < (n : Int) := by omega
            clear q1 q4
            cases g1 : ((S1 u).toList == [105, 110, 95, 112, 114, 111, 103, 114, 101, 115, 115]) with
            | true =>
              cases g2 : ((S4 u).toList == (S4 t).toList) with
              | true =>
                have H : Aside (anyB S1 S4 (S4 t) (u + 1) = true) := anyB_yes g1 g2
                go_wp2
                go_quiet (fail)
                go_wp2
                go_roundg (gk - 1)
                case measure => omega
                case rel => exact ⟨u + 1, _, by omega, by go_num, by rw [H.out]; rfl, rfl⟩
              | false =>
                have H : Aside (anyB S1 S4 (S4 t) (u + 1) = anyB S1 S4 (S4 t) u) := anyB_no2 g2
                go_wp2
                go_quiet (fail)
                go_wp2
                go_roundg (gk - 1)
                case measure => omega
                case rel => exact ⟨u + 1, _, by omega, by go_num, by rw [H.out], rfl⟩
            | false =>
              have H : Aside (anyB S1 S4 (S4 t) (u + 1) = anyB S1 S4 (S4 t) u) := anyB_no1 g1
              go_wp2
              go_quiet (fail)
              go_wp2
              go_roundg (gk - 1)
              case measure => omega
              case rel => exact ⟨u + 1, _, by omega, by go_num, by rw [H.out], rfl⟩
          · obtain rfl : u = t := by omega
            clear q1 q4
            cases g : anyB S1 S4 (S4 u) u with
            | true =>
              have H : Aside (cD S1 S4 (u + 1) = cD S1 S4 u) := by
                show cD S1 S4 u + (if inP S1 u && !anyB S1 S4 (S4 u) u then 1 else 0) = _
                rw [g]; simp
              go_wp2
              go_roundg (n - u - 1)
              case measure => omega
              case rel => exact ⟨u + 1, _, by omega, by go_num, by rw [H.out], rfl⟩
            | false =>
              have H : Aside (cD S1 S4 (u + 1) = cD S1 S4 u + 1) := by
                show cD S1 S4 u + (if inP S1 u && !anyB S1 S4 (S4 u) u then 1 else 0) = _
                rw [g, H1.out]; simp
              go_wp2
              go_roundg (n - u - 1)
              case measure => omega
              case rel => exact ⟨u + 1, _, by omega, by go_num, by rw [H.out]; go_num, rfl⟩
    · obtain rfl : t = n := by omega
      go_wp2
      go_ret
      exact ⟨rfl, _, rfl⟩

end Go.Proofs.Qxb6602989a
