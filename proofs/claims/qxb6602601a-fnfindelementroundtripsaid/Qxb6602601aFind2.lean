import Derived.Test.Qxb6602601aFind
namespace Go.Proofs.Qxb6602601a
open Go.RowKit
set_option linter.unusedVariables false

theorem prof_fin : ∀ k : Fin 16, (bits .andNot .u16 (4096 + (k.val : Int)) 15 != 4096) = false := by decide +kernel
theorem prof_ok (p : Int) (hp0 : 4096 ≤ p) (hp1 : p ≤ 4111) : (bits .andNot .u16 p 15 != 4096) = false := by
  have h := prof_fin ⟨(p - 4096).toNat, by omega⟩
  have e : (4096 : Int) + (((p - 4096).toNat : Nat) : Int) = p := by omega
  simp only [e] at h
  exact h

set_option maxRecDepth 100000 in
set_option maxHeartbeats 1000000 in
theorem find_two (p : Int) (hp0 : 4096 ≤ p) (hp1 : p ≤ 4111) (b off n c : Nat) (id : Int) (Z : Nat → Int) (w : World) (hn : n ≤ 1048576) (hnc : n ≤ c) (hcc : c ≤ maxLen)
    (hZ : ∀ i, i < n → w.cell? ⟨b, off + i, none⟩ = some (.int .u8 (Z i))) (hbd : ∀ i, 0 ≤ Z i ∧ Z i ≤ 255) :
    Calls Try.prog 8 #[.int .u16 p, .slice (some ⟨b, off, none⟩) n c, .int .i64 id] w fun e w' =>
      FoundAs b off (Plain.findZ false id n Z n 0) e ∧ ∃ q, w' = w.drewN q := by
  unfold maxLen at hcc
  have hp : (p == 48862) = false := by simp; omega
  have hpp := prof_ok p hp0 hp1
  have hft : ¬ (false = true) := by simp
  go_enter Try.func8, Try.ntmps8
  go_wp2
  go_loopg [9] n (fun k i wr => ∃ t q : Nat, n - t ≤ k ∧ t ≤ n ∧ i = .int .i64 t ∧ wr = w.drewN q ∧ Aside (Plain.findZ false id n Z n 0 = Plain.findZ false id n Z k t))
  case atStart => exact ⟨0, 0, by omega, by omega, rfl, rfl, rfl⟩
  case round =>
    obtain ⟨t, q, ht, htn, rfl, rfl, hF⟩ := hrel
    by_cases hlt : t < n
    · have hc := hZ t hlt
      have hb := hbd t
      obtain ⟨f, rfl⟩ : ∃ f, gk = f + 1 := ⟨gk - 1, by omega⟩
      have hlt' : (t : Int) < (n : Int) := by omega
      by_cases h0 : Z t = 0
      · clear hZ hbd
        go_wp2
        go_roundg f
        case measure => omega
        case rel => exact ⟨t + 1, q, by omega, by omega, by go_num, rfl, by rw [hF.out, Plain.findZ, if_pos hlt, if_pos h0]; rfl⟩
      · by_cases h1 : t + 1 = n
        · have g1 : ((t : Int) + 1 == (n : Int)) = true := by simp; omega
          have H1 : Aside (t + 1 = n) := h1
          clear h1 hZ hbd
          go_wp2
          go_ret2
          exact ⟨foundAs_none (by rw [hF.out, Plain.findZ, if_pos hlt, if_neg h0, if_neg hft, if_pos H1.out]) rfl, _, rfl⟩
        · have g1 : ((t : Int) + 1 == (n : Int)) = false := by simp; omega
          have hc' : w.cell? ⟨b, off + (t + 1), none⟩ = some (.int .u8 (Z (t + 1))) := hZ (t + 1) (by omega)
          have hb' := hbd (t + 1)
          have hlt2 : (t : Int) + 1 < (n : Int) := by omega
          clear hZ hbd
          by_cases h3 : (n : Int) - ((t : Int) + 2) < Z (t + 1)
          · go_wp2
            go_quiet (fail)
            go_wp2
            go_ret2
            exact ⟨foundAs_none (by rw [hF.out, Plain.findZ, if_pos hlt, if_neg h0, if_neg hft, if_neg h1, if_pos h3]) rfl, _, rfl⟩
          · by_cases h4 : Z t = id
            · have g4 : (Z t == id) = true := by simpa using h4
              have H4 : Aside (Z t = id) := h4
              clear h4
              go_wp2
              go_quiet (fail)
              go_wp2
              all_goals
                go_ret2
                refine ⟨foundAs_some (s := t + 2) (m := (Z (t + 1)).toNat) (by rw [hF.out, Plain.findZ, if_pos hlt, if_neg h0, if_neg hft, if_neg h1, if_neg (by omega), if_pos H4.out]) rfl (by omega) ?_, _, rfl⟩
                first | exact .inr rfl | exact .inl (by omega)
            · have g4 : (Z t == id) = false := by simpa using h4
              go_wp2
              go_quiet (fail)
              go_wp2
              go_roundg f
              case measure => omega
              case rel => exact ⟨t + 2 + (Z (t + 1)).toNat, _, by omega, by omega, by go_num, rfl, by rw [hF.out, Plain.findZ, if_pos hlt, if_neg h0, if_neg hft, if_neg h1, if_neg (by omega), if_neg h4]; rfl⟩
    · go_wp2
      go_ret2
      exact ⟨foundAs_none (by rw [hF.out]; cases gk with | zero => rfl | succ f => rw [Plain.findZ, if_neg hlt]) rfl, _, rfl⟩
end Go.Proofs.Qxb6602601a
