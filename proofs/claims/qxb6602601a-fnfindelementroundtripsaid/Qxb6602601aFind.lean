import Derived.Test.Qxb6602601aClone
import Derived.Test.Qxb6602601aPlain
import Derived.Deep.QuietTactic
import Derived.BigQuiet
namespace Go.Proofs.Qxb6602601a
open Go.RowKit
set_option linter.unusedVariables false

/-- FindElement's answer: nothing; or where the data begin and how many they are (of no data the address is left open). -/
def FoundAs (b off : Nat) (R : Option (Nat × Nat)) (e : Ending) : Prop :=
  (R = none ∧ e = .returned (.tuple #[.slice none 0 0, .bool false])) ∨
  ∃ s m a' c', R = some (s, m) ∧ e = .returned (.tuple #[.slice a' m c', .bool true]) ∧ (m = 0 ∨ a' = some ⟨b, off + s, none⟩)

theorem foundAs_none {b off : Nat} {R : Option (Nat × Nat)} {e : Ending} (h : R = none) (he : e = .returned (.tuple #[.slice none 0 0, .bool false])) : FoundAs b off R e := .inl ⟨h, he⟩
theorem foundAs_some {b off : Nat} {R : Option (Nat × Nat)} {e : Ending} {s m m' : Nat} {a' : Option Addr} {c' : Nat} (h : R = some (s, m)) (he : e = .returned (.tuple #[.slice a' m' c', .bool true])) (hm : m' = m) (ha : m = 0 ∨ a' = some ⟨b, off + s, none⟩) : FoundAs b off R e := by
  subst hm; exact .inr ⟨s, _, a', c', h, he, ha⟩

set_option maxRecDepth 100000 in
set_option maxHeartbeats 1000000 in
theorem find_one (b off n c : Nat) (id : Int) (Z : Nat → Int) (w : World) (hn : n ≤ 1048576) (hnc : n ≤ c) (hcc : c ≤ maxLen)
    (hZ : ∀ i, i < n → w.cell? ⟨b, off + i, none⟩ = some (.int .u8 (Z i))) (hbd : ∀ i, 0 ≤ Z i ∧ Z i ≤ 255) :
    Calls Try.prog 8 #[.int .u16 48862, .slice (some ⟨b, off, none⟩) n c, .int .i64 id] w fun e w' =>
      FoundAs b off (Plain.findZ true id n Z n 0) e ∧ ∃ q, w' = w.drewN q := by
  unfold maxLen at hcc
  go_enter Try.func8, Try.ntmps8
  go_wp2
  go_loopg [9] n (fun k i wr => ∃ t q : Nat, n - t ≤ k ∧ t ≤ n ∧ i = .int .i64 t ∧ wr = w.drewN q ∧ Aside (Plain.findZ true id n Z n 0 = Plain.findZ true id n Z k t))
  case atStart => exact ⟨0, 0, by omega, by omega, rfl, rfl, rfl⟩
  case round =>
    obtain ⟨t, q, ht, htn, rfl, rfl, hF⟩ := hrel
    by_cases hlt : t < n
    · have hc := hZ t hlt
      have hb := hbd t
      obtain ⟨f, rfl⟩ : ∃ f, gk = f + 1 := ⟨gk - 1, by omega⟩
      have hlt' : (t : Int) < (n : Int) := by omega
      clear hZ hbd
      by_cases h0 : Z t = 0
      · go_wp2
        go_roundg f
        case measure => omega
        case rel => exact ⟨t + 1, q, by omega, by omega, by go_num, rfl, by rw [hF.out, Plain.findZ, if_pos hlt, if_pos h0]; rfl⟩
      · by_cases h1 : Z t / 16 = 0
        · go_wp2
          go_quiet (fail)
          go_wp2
          go_ret2
          exact ⟨foundAs_none (by rw [hF.out, Plain.findZ, if_pos hlt, if_neg h0, if_pos rfl, if_pos (Or.inl h1)]) rfl, _, rfl⟩
        · have g1 : (Z t / 16 == 0) = false := by simpa using h1
          by_cases h2 : Z t / 16 = 15
          · go_wp2
            go_quiet (fail)
            go_wp2
            go_ret2
            exact ⟨foundAs_none (by rw [hF.out, Plain.findZ, if_pos hlt, if_neg h0, if_pos rfl, if_pos (Or.inr h2)]) rfl, _, rfl⟩
          · have g2 : (Z t / 16 == 15) = false := by simpa using h2
            have h12 : ¬ (Z t / 16 = 0 ∨ Z t / 16 = 15) := by omega
            by_cases h3 : (n : Int) - ((t : Int) + 1) < Z t % 16 + 1
            · go_wp2
              go_quiet (fail)
              go_wp2
              go_ret2
              exact ⟨foundAs_none (by rw [hF.out, Plain.findZ, if_pos hlt, if_neg h0, if_pos rfl, if_neg h12, if_pos h3]) rfl, _, rfl⟩
            · by_cases h4 : Z t / 16 = id
              · have g4 : (Z t / 16 == id) = true := by simpa using h4
                have H4 : Aside (Z t / 16 = id) := h4
                clear h4
                go_wp2
                go_quiet (fail)
                go_wp2
                go_ret2
                exact ⟨foundAs_some (s := t + 1) (m := (Z t % 16 + 1).toNat) (by rw [hF.out, Plain.findZ, if_pos hlt, if_neg h0, if_pos rfl, if_neg h12, if_neg (by omega), if_pos H4.out]) rfl (by omega) (.inr rfl), _, rfl⟩
              · have g4 : (Z t / 16 == id) = false := by simpa using h4
                go_wp2
                go_quiet (fail)
                go_wp2
                go_roundg f
                case measure => omega
                case rel => exact ⟨t + 1 + (Z t % 16 + 1).toNat, _, by omega, by omega, by go_num, rfl, by rw [hF.out, Plain.findZ, if_pos hlt, if_neg h0, if_pos rfl, if_neg h12, if_neg (by omega), if_neg h4]; rfl⟩
    · go_wp2
      go_ret2
      exact ⟨foundAs_none (by rw [hF.out]; cases gk with | zero => rfl | succ f => rw [Plain.findZ, if_neg hlt]) rfl, _, rfl⟩

end Go.Proofs.Qxb6602601a
