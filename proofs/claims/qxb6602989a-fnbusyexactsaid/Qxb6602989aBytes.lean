import Derived.Test.Qxb6602989aRows
import Derived.WalkKit
import Derived.WalkSpells
import Derived.WalkLawsBesides
import Derived.Deep.OwnRows
import Derived.Deep.LoopGhost
import Derived.Deep.QuietTactic
import Derived.BigQuiet
namespace Go.Proofs.Qxb6602989a
open Go.RowKit
set_option linter.unusedVariables false

/-- The strings behind a slice's address: nothing where there are none. -/
def SView (w : World) (a : Option Addr) (n : Nat) (S : Nat → ByteArray) : Prop :=
  n = 0 ∨ ∃ b off, a = some ⟨b, off, none⟩ ∧ ∀ i, i < n → w.cell? ⟨b, off + i, none⟩ = some (.string (S i))

/-- The outer cells of a slice of string slices. -/
def Outer (w : World) (a : Option Addr) (n : Nat) (A : Nat → Option Addr) (L C : Nat → Nat) : Prop :=
  n = 0 ∨ ∃ b off, a = some ⟨b, off, none⟩ ∧ ∀ r, r < n → w.cell? ⟨b, off + r, none⟩ = some (.slice (A r) (L r) (C r))

/-- The call returns a bool: true only if Q. -/
def IsBool (e : Ending) (Q : Prop) : Prop := ∃ r : Bool, e = .returned (.bool r) ∧ (r = true → Q)

/-- The five columns as they came in. -/
structure Cols (w : World) (a1 a2 a3 a4 : Option Addr) (n1 n2 n3 n4 : Nat) (S1 S2 S4 : Nat → ByteArray) (A : Nat → Option Addr) (L C : Nat → Nat) (T : Nat → Nat → ByteArray) : Prop where
  s1 : SView w a1 n1 S1
  s2 : SView w a2 n2 S2
  s3 : Outer w a3 n3 A L C
  s4 : SView w a4 n4 S4
  inn : ∀ r, r < n3 → SView w (A r) (L r) (T r)
  z1 : ∀ i, (S1 i).size ≤ maxLen
  z2 : ∀ i, (S2 i).size ≤ maxLen
  z4 : ∀ i, (S4 i).size ≤ maxLen
  zT : ∀ r i, (T r i).size ≤ maxLen
  zL : ∀ r, r < n3 → L r ≤ maxLen


set_option maxRecDepth 100000 in
set_option maxHeartbeats 4000000 in
theorem bytes_any (a0 a1 a2 a3 a4 : Option Addr) (n0 n1 n2 n3 n4 c0 c1 c2 c3 c4 : Nat) (S1 S2 S4 : Nat → ByteArray) (A : Nat → Option Addr) (L C : Nat → Nat) (T : Nat → Nat → ByteArray) (w : World) (h : Cols w a1 a2 a3 a4 n1 n2 n3 n4 S1 S2 S4 A L C T) (m0 : n0 ≤ maxLen) (m1 : n1 ≤ maxLen) (m2 : n2 ≤ maxLen) (m3 : n3 ≤ maxLen) (m4 : n4 ≤ maxLen) :
    Calls Try.prog 7 #[.slice a0 n0 c0, .slice a1 n1 c1, .slice a2 n2 c2, .slice a3 n3 c3, .slice a4 n4 c4] w fun e w' => IsBool e (∀ r, r < n3 → L r ≤ 1048576) ∧ w = w' := by
  obtain ⟨v1, v2, v3, v4, vI, z1, z2, z4, zT, zL⟩ := h
  unfold maxLen at m0 m1 m2 m3 m4 z1 z2 z4 zT zL
  by_cases h0 : n0 ≤ 1048576
  · by_cases h1 : n1 ≤ 1048576
    · by_cases h2 : (n0 : Int) + (n1 : Int) ≤ 1048576
      · go_enter Try.func7, Try.ntmps7
        go_wp2
        go_loopg [11, 12] n1 (fun k s i wr => ∃ (t : Nat) (z : Int), t + k = n1 ∧ i = .int .i64 t ∧ s = .int .i64 z ∧ 0 ≤ z ∧ z ≤ 1048576 ∧ w = wr)
        case atStart => exact ⟨0, _, by omega, rfl, rfl, by omega, by omega, rfl⟩
        case round =>
          obtain ⟨t, z, ht, rfl, rfl, hz0, hz1, rfl⟩ := hrel
          by_cases hlt : t < n1
          · have hsz := z1 t
            rcases v1 with h0 | ⟨b, off, rfl, hcs⟩
            · exact absurd h0 (by omega)
            · have hc := hcs t hlt
              have hlt' : (t : Int) < (n1 : Int) := by omega
              clear hcs z1 z2 z4 zT zL vI
              by_cases g1 : (S1 t).size ≤ 1048576
              · by_cases g2 : z + ((S1 t).size : Int) ≤ 1048576
                · go_wp2
                  go_roundg (gk - 1)
                  case measure => omega
                  case rel => exact ⟨t + 1, _, by omega, by go_num, rfl, by omega, by omega, rfl⟩
                · go_wp2
                  go_ret
                  exact ⟨⟨_, rfl, fun hr => by cases hr⟩, rfl⟩
              · go_wp2
                go_ret
                exact ⟨⟨_, rfl, fun hr => by cases hr⟩, rfl⟩
          · skip
            by_cases g1 : n2 ≤ 1048576
            · by_cases g2 : z + (n2 : Int) ≤ 1048576
              · go_wp2
                clear ht hlt
                go_loopg [11, 13] n2 (fun k s i wr => ∃ (t : Nat) (z : Int), t + k = n2 ∧ i = .int .i64 t ∧ s = .int .i64 z ∧ 0 ≤ z ∧ z ≤ 1048576 ∧ w = wr)
                case atStart => exact ⟨0, _, by omega, rfl, rfl, by omega, by omega, rfl⟩
                case round =>
                  obtain ⟨t, z, ht, rfl, rfl, hz0, hz1, rfl⟩ := hrel
                  by_cases hlt : t < n2
                  · have hsz := z2 t
                    rcases v2 with h0 | ⟨b, off, rfl, hcs⟩
                    · exact absurd h0 (by omega)
                    · have hc := hcs t hlt
                      have hlt' : (t : Int) < (n2 : Int) := by omega
                      clear hcs z1 z2 z4 zT zL vI
                      by_cases g1 : (S2 t).size ≤ 1048576
                      · by_cases g2 : z + ((S2 t).size : Int) ≤ 1048576
                        · go_wp2
                          go_roundg (gk - 1)
                          case measure => omega
                          case rel => exact ⟨t + 1, _, by omega, by go_num, rfl, by omega, by omega, rfl⟩
                        · go_wp2
                          go_ret
                          exact ⟨⟨_, rfl, fun hr => by cases hr⟩, rfl⟩
                      · go_wp2
                        go_ret
                        exact ⟨⟨_, rfl, fun hr => by cases hr⟩, rfl⟩
                  · skip
                    by_cases g1 : n3 ≤ 1048576
                    · by_cases g2 : z + (n3 : Int) ≤ 1048576
                      · go_wp2
                        clear ht hlt
                        go_loopg [11, 14] n3 (fun k s i wr => ∃ (t : Nat) (z : Int), t + k = n3 ∧ i = .int .i64 t ∧ s = .int .i64 z ∧ 0 ≤ z ∧ z ≤ 1048576 ∧ w = wr ∧ Aside (∀ r, r < t → L r ≤ 1048576))
                        case atStart => exact ⟨0, _, by omega, rfl, rfl, by omega, by omega, rfl, fun r hr => absurd hr (by omega)⟩
                        case round =>
                          obtain ⟨t, z, ht, rfl, rfl, hz0, hz1, rfl, hLa⟩ := hrel
                          by_cases hlt : t < n3
                          · have hsz := zL t hlt
                            have hin := vI t hlt
                            rcases v3 with h0 | ⟨b, off, rfl, hcs⟩
                            · exact absurd h0 (by omega)
                            · have hc := hcs t hlt
                              have hlt' : (t : Int) < (n3 : Int) := by omega
                              clear hcs z1 z2 z4 zL vI
                              by_cases g1 : L t ≤ 1048576
                              · by_cases g2 : z + (L t : Int) ≤ 1048576
                                · go_wp2
                                  go_loopg [11, 15] (L t) (fun k s i wr => ∃ (q : Nat) (y : Int), q + k = L t ∧ i = .int .i64 q ∧ s = .int .i64 y ∧ 0 ≤ y ∧ y ≤ 1048576 ∧ w = wr)
                                  case atStart => exact ⟨0, _, by omega, rfl, rfl, by omega, by omega, rfl⟩
                                  case round =>
                                    obtain ⟨q, y, hq, rfl, rfl, hy0, hy1, rfl⟩ := hrel
                                    by_cases hql : q < L t
                                    · have hsq := zT t q
                                      rcases hin with h0 | ⟨bi, oi, hA, hci⟩
                                      · exact absurd h0 (by omega)
                                      · rw [hA] at hc
                                        have hcq := hci q hql
                                        have hql' : (q : Int) < (L t : Int) := by omega
                                        clear hci hA zT
                                        by_cases k1 : (T t q).size ≤ 1048576
                                        · by_cases k2 : y + ((T t q).size : Int) ≤ 1048576
                                          · go_wp2
                                            go_roundg (gk - 1)
                                            case measure => omega
                                            case rel => exact ⟨q + 1, _, by omega, by go_num, rfl, by omega, by omega, rfl⟩
                                          · go_wp2
                                            go_ret
                                            exact ⟨⟨_, rfl, fun hr => by cases hr⟩, rfl⟩
                                        · go_wp2
                                          go_ret
                                          exact ⟨⟨_, rfl, fun hr => by cases hr⟩, rfl⟩
                                    · go_wp2
                                      go_roundg (n3 - t - 1)
                                      case measure => omega
                                      case rel => exact ⟨t + 1, _, by omega, by go_num, rfl, by omega, by omega, rfl, fun r hr => by rcases Nat.lt_succ_iff_lt_or_eq.1 hr with h | h; exact hLa.out r h; subst h; exact g1⟩
                                · go_wp2
                                  go_ret
                                  exact ⟨⟨_, rfl, fun hr => by cases hr⟩, rfl⟩
                              · go_wp2
                                go_ret
                                exact ⟨⟨_, rfl, fun hr => by cases hr⟩, rfl⟩
                          · have HL : Aside (∀ r, r < n3 → L r ≤ 1048576) := fun r hr => hLa.out r (by omega)
                            by_cases g1 : n4 ≤ 1048576
                            · by_cases g2 : z + (n4 : Int) ≤ 1048576
                              · go_wp2
                                clear ht hlt
                                go_loopg [11, 16] n4 (fun k s i wr => ∃ (t : Nat) (z : Int), t + k = n4 ∧ i = .int .i64 t ∧ s = .int .i64 z ∧ 0 ≤ z ∧ z ≤ 1048576 ∧ w = wr)
                                case atStart => exact ⟨0, _, by omega, rfl, rfl, by omega, by omega, rfl⟩
                                case round =>
                                  obtain ⟨t, z, ht, rfl, rfl, hz0, hz1, rfl⟩ := hrel
                                  by_cases hlt : t < n4
                                  · have hsz := z4 t
                                    rcases v4 with h0 | ⟨b, off, rfl, hcs⟩
                                    · exact absurd h0 (by omega)
                                    · have hc := hcs t hlt
                                      have hlt' : (t : Int) < (n4 : Int) := by omega
                                      clear hcs z1 z2 z4 zT zL vI
                                      by_cases g1 : (S4 t).size ≤ 1048576
                                      · by_cases g2 : z + ((S4 t).size : Int) ≤ 1048576
                                        · go_wp2
                                          go_roundg (gk - 1)
                                          case measure => omega
                                          case rel => exact ⟨t + 1, _, by omega, by go_num, rfl, by omega, by omega, rfl⟩
                                        · go_wp2
                                          go_ret
                                          exact ⟨⟨_, rfl, fun hr => by cases hr⟩, rfl⟩
                                      · go_wp2
                                        go_ret
                                        exact ⟨⟨_, rfl, fun hr => by cases hr⟩, rfl⟩
                                  · skip
                                    go_wp2
                                    go_ret
                                    exact ⟨⟨_, rfl, fun _ => HL.out⟩, rfl⟩
                              · go_wp2
                                go_ret
                                exact ⟨⟨_, rfl, fun hr => by cases hr⟩, rfl⟩
                            · go_wp2
                              go_ret
                              exact ⟨⟨_, rfl, fun hr => by cases hr⟩, rfl⟩
                      · go_wp2
                        go_ret
                        exact ⟨⟨_, rfl, fun hr => by cases hr⟩, rfl⟩
                    · go_wp2
                      go_ret
                      exact ⟨⟨_, rfl, fun hr => by cases hr⟩, rfl⟩
              · go_wp2
                go_ret
                exact ⟨⟨_, rfl, fun hr => by cases hr⟩, rfl⟩
            · go_wp2
              go_ret
              exact ⟨⟨_, rfl, fun hr => by cases hr⟩, rfl⟩
      · go_enter Try.func7, Try.ntmps7
        go_wp2
        go_ret
        exact ⟨⟨_, rfl, fun hr => by cases hr⟩, rfl⟩
    · go_enter Try.func7, Try.ntmps7
      go_wp2
      go_ret
      exact ⟨⟨_, rfl, fun hr => by cases hr⟩, rfl⟩
  · go_enter Try.func7, Try.ntmps7
    go_wp2
    go_ret
    exact ⟨⟨_, rfl, fun hr => by cases hr⟩, rfl⟩

end Go.Proofs.Qxb6602989a
