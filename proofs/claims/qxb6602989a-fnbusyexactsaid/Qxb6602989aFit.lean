import Derived.Test.Qxb6602989aBytes
namespace Go.Proofs.Qxb6602989a
open Go.RowKit
set_option linter.unusedVariables false


set_option maxRecDepth 100000 in
set_option maxHeartbeats 4000000 in
theorem fit_any (a0 a1 a2 a3 a4 : Option Addr) (n0 n1 n2 n3 n4 c0 c1 c2 c3 c4 : Nat) (S1 S2 S4 : Nat → ByteArray) (A : Nat → Option Addr) (L C : Nat → Nat) (T : Nat → Nat → ByteArray) (w : World) (h : Cols w a1 a2 a3 a4 n1 n2 n3 n4 S1 S2 S4 A L C T) (m0 : n0 ≤ 4096) (m1 : n1 ≤ 4096) (m2 : n2 ≤ 4096) (m3 : n3 ≤ 4096) (m4 : n4 ≤ 4096) :
    Calls Try.prog 8 #[.slice a0 n0 c0, .slice a1 n1 c1, .slice a2 n2 c2, .slice a3 n3 c3, .slice a4 n4 c4] w fun e w' => IsBool e True ∧ w = w' := by
  obtain ⟨v1, v2, v3, v4, vI, z1, z2, z4, zT, zL⟩ := h
  unfold maxLen at z1 z2 z4 zT zL
  go_enter Try.func8, Try.ntmps8
  go_wp2
  go_loopg [11, 12] n1 (fun k s i wr => ∃ (t : Nat) (z : Int), t + k = n1 ∧ i = .int .i64 t ∧ s = .int .i64 z ∧ 0 ≤ z ∧ z ≤ 1048576 ∧ w = wr)
  case atStart => exact ⟨0, _, by omega, rfl, rfl, by omega, by omega, rfl⟩
  case round =>
    obtain ⟨t, z, ht, rfl, rfl, hz0, hz1, rfl⟩ := hrel
    by_cases hlt : t < n1
    · have hsz := z1 t
      rcases v1 with h0 | ⟨b, off, rfl, hcs⟩
      · exact absurd h0 (by omega)
      · have hc := hcs t hlt
        have hlt' : (t : Int) < (n1 : Int) := by omega
        clear hcs z1 z2 z4 zT zL vI
        by_cases g2 : z + ((S1 t).size : Int) ≤ 1048576
        · go_wp2
          go_roundg (gk - 1)
          case measure => omega
          case rel => exact ⟨t + 1, _, by omega, by go_num, rfl, by omega, by omega, rfl⟩
        · go_wp2
          go_ret
          exact ⟨⟨_, rfl, fun _ => trivial⟩, rfl⟩
    · skip
      go_wp2
      clear ht hlt
      go_loopg [11, 13] n2 (fun k s i wr => ∃ (t : Nat) (z : Int), t + k = n2 ∧ i = .int .i64 t ∧ s = .int .i64 z ∧ 0 ≤ z ∧ z ≤ 1048576 ∧ w = wr)
      case atStart => exact ⟨0, _, by omega, rfl, rfl, by omega, by omega, rfl⟩
      case round =>
        obtain ⟨t, z, ht, rfl, rfl, hz0, hz1, rfl⟩ := hrel
        by_cases hlt : t < n2
        · have hsz := z2 t
          rcases v2 with h0 | ⟨b, off, rfl, hcs⟩
          · exact absurd h0 (by omega)
          · have hc := hcs t hlt
            have hlt' : (t : Int) < (n2 : Int) := by omega
            clear hcs z1 z2 z4 zT zL vI
            by_cases g2 : z + ((S2 t).size : Int) ≤ 1048576
            · go_wp2
              go_roundg (gk - 1)
              case measure => omega
              case rel => exact ⟨t + 1, _, by omega, by go_num, rfl, by omega, by omega, rfl⟩
            · go_wp2
              go_ret
              exact ⟨⟨_, rfl, fun _ => trivial⟩, rfl⟩
        · skip
          go_wp2
          clear ht hlt
          go_loopg [11, 14] n4 (fun k s i wr => ∃ (t : Nat) (z : Int), t + k = n4 ∧ i = .int .i64 t ∧ s = .int .i64 z ∧ 0 ≤ z ∧ z ≤ 1048576 ∧ w = wr)
          case atStart => exact ⟨0, _, by omega, rfl, rfl, by omega, by omega, rfl⟩
          case round =>
            obtain ⟨t, z, ht, rfl, rfl, hz0, hz1, rfl⟩ := hrel
            by_cases hlt : t < n4
            · have hsz := z4 t
              rcases v4 with h0 | ⟨b, off, rfl, hcs⟩
              · exact absurd h0 (by omega)
              · have hc := hcs t hlt
                have hlt' : (t : Int) < (n4 : Int) := by omega
                clear hcs z1 z2 z4 zT zL vI
                by_cases g2 : z + ((S4 t).size : Int) ≤ 1048576
                · go_wp2
                  go_roundg (gk - 1)
                  case measure => omega
                  case rel => exact ⟨t + 1, _, by omega, by go_num, rfl, by omega, by omega, rfl⟩
                · go_wp2
                  go_ret
                  exact ⟨⟨_, rfl, fun _ => trivial⟩, rfl⟩
            · skip
              go_wp2
              clear ht hlt
              go_loopg [11, 15] n3 (fun k s i wr => ∃ (t : Nat) (z : Int), t + k = n3 ∧ i = .int .i64 t ∧ s = .int .i64 z ∧ 0 ≤ z ∧ z ≤ 1048576 ∧ w = wr)
              case atStart => exact ⟨0, _, by omega, rfl, rfl, by omega, by omega, rfl⟩
              case round =>
                obtain ⟨t, z, ht, rfl, rfl, hz0, hz1, rfl⟩ := hrel
                by_cases hlt : t < n3
                · have hsz := zL t hlt
                  have hin := vI t hlt
                  rcases v3 with h0 | ⟨b, off, rfl, hcs⟩
                  · exact absurd h0 (by omega)
                  · have hc := hcs t hlt
                    have hlt' : (t : Int) < (n3 : Int) := by omega
                    clear hcs z1 z2 z4 zL vI
                    by_cases g2 : (L t : Int) ≤ (1048576 - z) / 16
                    · go_wp2
                      go_loopg [11, 16] (L t) (fun k s i wr => ∃ (q : Nat) (y : Int), q + k = L t ∧ i = .int .i64 q ∧ s = .int .i64 y ∧ 0 ≤ y ∧ y ≤ 1048576 ∧ w = wr)
                      case atStart => exact ⟨0, _, by omega, rfl, rfl, by omega, by omega, rfl⟩
                      case round =>
                        obtain ⟨q, y, hq, rfl, rfl, hy0, hy1, rfl⟩ := hrel
                        by_cases hql : q < L t
                        · have hsq := zT t q
                          rcases hin with h0 | ⟨bi, oi, hA, hci⟩
                          · exact absurd h0 (by omega)
                          · rw [hA] at hc
                            have hcq := hci q hql
                            have hql' : (q : Int) < (L t : Int) := by omega
                            clear hci hA zT
                            by_cases k2 : y + ((T t q).size : Int) ≤ 1048576
                            · go_wp2
                              go_roundg (gk - 1)
                              case measure => omega
                              case rel => exact ⟨q + 1, _, by omega, by go_num, rfl, by omega, by omega, rfl⟩
                            · go_wp2
                              go_ret
                              exact ⟨⟨_, rfl, fun _ => trivial⟩, rfl⟩
                        · go_wp2
                          go_roundg (n3 - t - 1)
                          case measure => omega
                          case rel => exact ⟨t + 1, _, by omega, by go_num, rfl, by omega, by omega, rfl⟩
                    · go_wp2
                      go_ret
                      exact ⟨⟨_, rfl, fun _ => trivial⟩, rfl⟩
                · skip
                  go_wp2
                  go_ret
                  exact ⟨⟨_, rfl, fun _ => trivial⟩, rfl⟩

end Go.Proofs.Qxb6602989a
