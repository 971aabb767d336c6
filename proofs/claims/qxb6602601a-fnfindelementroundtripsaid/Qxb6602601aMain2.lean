import Derived.Test.Qxb6602601aBuilt
namespace Go.Proofs.Qxb6602601a
open Go.RowKit
set_option linter.unusedVariables false

theorem prof_or_fin : ∀ k : Fin 16, 4096 ≤ bits .or .u16 4096 (k.val : Int) ∧ bits .or .u16 4096 (k.val : Int) ≤ 4111 := by decide +kernel
theorem prof_or (u : Int) : Prof false (bits .or .u16 4096 (u % 16)) := by
  have h := prof_or_fin ⟨(u % 16).toNat, by omega⟩
  have e : (((u % 16).toNat : Nat) : Int) = u % 16 := by omega
  simp only [e] at h
  exact .inr ⟨rfl, h⟩

set_option maxRecDepth 100000 in
set_option maxHeartbeats 8000000 in
theorem main_two (u : Int) (hu : 0 ≤ u ∧ u ≤ 255) (b off n2 c2 : Nat) (A : Nat → Option Addr) (L C : Nat → Nat) (Z : Nat → Nat → Int) (x3 : Addr) (n3 c3 : Nat) (P : Nat → Int) (w : World)
    (hl : Lists w (some ⟨b, off, none⟩) n2 A L C Z) (hZ : ∀ r i, 0 ≤ Z r i ∧ Z r i ≤ 255) (hv3 : View w (some x3) n3 P) (hP : ∀ i, 0 ≤ P i ∧ P i ≤ 255) (hn2 : n2 ≤ maxLen) (hn3 : n3 ≤ maxLen) (hL : ∀ r, r < n2 → L r ≤ maxLen)
    (hbw : b < w.heap.size) (hR : ∀ r, r < n2 → w.cell? ⟨b, off + r, none⟩ = some (.slice (A r) (L r) (C r))) :
    Calls Try.prog 3 #[.bool false, .int .u8 u, .slice (some ⟨b, off, none⟩) n2 c2, .slice (some x3) n3 c3] w fun e w' => e = .returned (.bool true) ∧ Below w.heap.size w w' := by
  have hbytes := bytes_any false u (some ⟨b, off, none⟩) n2 c2 A L C (some x3) n3 c3 w hn2 hn3 hL hl.outer
  unfold maxLen at hn2 hn3 hL
  go_enter Try.func3, Try.ntmps3
  go_wp2_with (go_at_call 5; refine hbytes.mono ?_; rintro e w' ⟨⟨r, rfl, hr⟩, hw⟩; obtain rfl := hw.symm; cases r)
  all_goals first | (go_ret; exact ⟨rfl, Below.refl _ _⟩) | skip
  obtain ⟨hm2, hm3, hmL⟩ := hr trivial
  clear hr hbytes hL
  go_loopg [9, 10] n2 (fun k s i wr => ∃ (t : Nat) (z : Int), t + k = n2 ∧ i = .int .i64 t ∧ s = .int .i64 z ∧ 0 ≤ z ∧ z ≤ 1048576 ∧ w = wr)
  case atStart => exact ⟨0, n3, by omega, rfl, rfl, by omega, by omega, rfl⟩
  case round =>
    obtain ⟨t, z, ht, rfl, rfl, hz0, hz1, rfl⟩ := hrel
    by_cases hlt : t < n2
    · have hc := hR t hlt
      have hl := hmL t hlt
      have hlt' : (t : Int) < (n2 : Int) := by omega
      clear hR
      by_cases h2 : z + 24 + (L t : Int) ≤ 1048576
      · go_wp2
        go_roundg (gk - 1)
        case measure => omega
        case rel => exact ⟨t + 1, _, by omega, by go_num, rfl, by omega, by omega, rfl⟩
      · go_wp2
        go_ret
        exact ⟨rfl, Below.refl _ _⟩
    · by_cases h14 : n2 ≤ 255
      · go_wp2
        clear ht hz0 hz1 hlt
        go_loopg [14] n2 (fun k i wr => ∃ (t : Nat), t + k = n2 ∧ i = .int .i64 t ∧ w = wr ∧ Aside (∀ r, r < t → L r ≤ 255))
        case atStart => exact ⟨0, by omega, rfl, rfl, fun r hr => absurd hr (by omega)⟩
        case round =>
          obtain ⟨t, ht, rfl, rfl, hA⟩ := hrel
          by_cases hlt : t < n2
          · have hc := hR t hlt
            have hlt' : (t : Int) < (n2 : Int) := by omega
            clear hR
            by_cases h2 : L t ≤ 255
            · go_wp2
              go_roundg (gk - 1)
              case measure => omega
              case rel => exact ⟨t + 1, by omega, by go_num, rfl, fun r hr => by rcases Nat.lt_succ_iff_lt_or_eq.1 hr with h | h; exact hA.out r h; subst h; exact h2⟩
            · go_wp2
              go_ret
              exact ⟨rfl, Below.refl _ _⟩
          · have hA' : Aside (∀ r, r < n2 → L r ≤ 255) := fun r hr => hA.out r (by omega)
            clear hA
            go_wp2_with (first
              | (go_at_call 6; refine (clones_some b off n2 c2 A L C Z w (by omega) hbw hR hmL hl.view hl.nil_).mono ?_; rintro e w1 ⟨rfl, A1, hl1⟩)
              | (go_at_call 7; refine (clone_ptr x3 n3 c3 P _ hm3 (hv3.below hl1.below hv3.lt)).mono ?_; rintro e w2 ⟨rfl, hp2, hb2⟩))
            have hcl := Clones.mk_ hl1 hp2 hb2
            have hbw2 : Below w.heap.size w w2 := hl1.below.trans (hb2.mono hl1.below.size)
            have hgs : w.heap.size ≤ w2.heap.size := hbw2.size
            clear hR hl hv3 hmL hl1 hp2 hb2 ht hlt
            go_loopg [16, 17] n2 (fun k ev jv wr => ∃ j : Nat, j + k = n2 ∧ jv = .int .i64 j ∧ Own w2.heap.size w2 wr ev (Plain.enc false (Pd n3 P) (Dt L Z) j))
            case atStart => exact ⟨0, by omega, rfl, World.ownsRow_nil _ _ _ _, Below.refl _ _, Nat.le_refl _⟩
            case round =>
              obtain ⟨j, hjk, rfl, hown⟩ := hrel
              by_cases hlt : j < n2
              · have hAj := hA'.out j hlt
                have hLj : ∀ r, r < j → L r ≤ 255 := fun r hr => by have := hA'.out r (by omega); omega
                have hlt' : (j : Int) < (n2 : Int) := by omega
                by_cases hj3 : j < n3
                · have hj3' : (j : Int) < (n3 : Int) := by omega
                  have hPj := hP j
                  have epd : Pd n3 P j = (P j).toNat := if_pos hj3
                  have HPD : Aside (Pd n3 P j = (P j).toNat) := epd
                  clear epd
                  go_wp2
                  go_loopg [16, 18] (P j).toNat (fun k ev pv wr => ∃ p : Nat, p + k = (P j).toNat ∧ pv = .int .i64 p ∧ Own w2.heap.size w2 wr ev (Q1 false n3 P L Z j p))
                  case atStart => exact ⟨0, by omega, rfl, hown.cast q1_zero⟩
                  case round =>
                    obtain ⟨p, hp, rfl, hown2⟩ := hrel
                    have hpj : wr.cell? ⟨w1.heap.size, j, none⟩ = some (.int .u8 (P j)) := (hown2.below.cell (by exact lt_of_cell (hcl.pad j hj3))).trans (hcl.pad j hj3)
                    by_cases hpl : p < (P j).toNat
                    · have hpl' : (p : Int) < P j := by omega
                      go_wp2_with (at_builtin; refine wpList_push rfl _ _ rfl rfl rfl hown2 (Nat.le_trans (q1_small hP (by omega) hLj (by omega)) (by decide)) ?_; intro v3 w3 hown3)
                      go_roundg (gk - 1)
                      case measure => omega
                      case rel => exact ⟨p + 1, by omega, by go_num, hown3.cast (q1_succ p)⟩
                    · have hpp : ¬ (p : Int) < P j := by omega
                      have hown2' := hown2.cast (show Q1 false n3 P L Z j p = Q1 false n3 P L Z j (Pd n3 P j) by rw [HPD.out]; congr 1; omega)
                      clear hown2
                      have hcj : wr.cell? ⟨w.heap.size, j, none⟩ = some (.slice (A1 j) (L j) (L j)) := (hown2'.below.cell (by exact lt_of_cell (hcl.row j hlt))).trans (hcl.row j hlt)
                      have tok1 : True := trivial
                      go_wp2_with (first | (at_builtin; have _t := tok1; refine wpList_push rfl _ _ rfl rfl rfl hown2' (Nat.le_trans (q1_small hP (by omega) hLj (pd_le hP)) (by decide)) ?_; intro v3 w3 hown3; clear tok1; have hcj3 : w3.cell? ⟨w.heap.size, j, none⟩ = some (.slice (A1 j) (L j) (L j)) := (hown3.below.cell (by exact lt_of_cell (hcl.row j hlt))).trans (hcl.row j hlt)) | (at_builtin; refine wpList_push rfl _ _ rfl rfl rfl hown3 (by rw [List.length_append]; have := q1_small (o := false) (n3 := n3) (L := L) (Z := Z) (j := j) hP (by omega) hLj (pd_le (n3 := n3) (j := j) hP); simp only [List.length_singleton]; omega) ?_; intro v4 w4 hown4'))
                      have hown4 := hown4'.cast q2_zero_two
                      clear hown3 hcj hown4'
                      go_loopg [16, 20] (L j) (fun k ev tv wr => ∃ t : Nat, t + k = L j ∧ tv = .int .i64 t ∧ Own w2.heap.size w2 wr ev (Q2 false n3 P L Z j t))
                      case atStart => exact ⟨0, by omega, rfl, hown4⟩
                      case round =>
                        obtain ⟨t, ht, rfl, hown5⟩ := hrel
                        by_cases htl : t < L j
                        · have hcj : wr.cell? ⟨w.heap.size, j, none⟩ = some (.slice (A1 j) (L j) (L j)) := (hown5.below.cell (by exact lt_of_cell (hcl.row j hlt))).trans (hcl.row j hlt)
                          rcases hcl.view j hlt with h0 | ⟨bj, oj, hAj1, hbj⟩
                          · exact absurd h0 (by omega)
                          · rw [hAj1] at hcj
                            have hcz : wr.cell? ⟨bj, oj + t, none⟩ = some (.int .u8 (Z j t)) := (hown5.below.cell (by exact lt_of_cell (hbj t htl))).trans (hbj t htl)
                            have htl' : (t : Int) < (L j : Int) := by omega
                            clear hbj hAj1
                            go_wp2_with (at_builtin; refine wpList_push rfl _ _ rfl rfl rfl hown5 (Nat.le_trans (q2_small hP (by omega) hLj (by omega)) (by decide)) ?_; intro v5 w5 hown6)
                            go_roundg (gk - 1)
                            case measure => omega
                            case rel => exact ⟨t + 1, by omega, by go_num, hown6.cast (q2_succ t)⟩
                        · obtain rfl : t = L j := by omega
                          go_wp2
                          go_roundg (n2 - j - 1)
                          case measure => omega
                          case rel => exact ⟨j + 1, by omega, by go_num, hown5.cast q2_done⟩
                · have epd : Pd n3 P j = 0 := if_neg hj3
                  have hown2' := hown.cast (show Plain.enc false (Pd n3 P) (Dt L Z) j = Q1 false n3 P L Z j (Pd n3 P j) by rw [epd]; exact q1_zero)
                  clear epd hown
                  have hcj : wr.cell? ⟨w.heap.size, j, none⟩ = some (.slice (A1 j) (L j) (L j)) := (hown2'.below.cell (by exact lt_of_cell (hcl.row j hlt))).trans (hcl.row j hlt)
                  have tok1 : True := trivial
                  go_wp2_with (first | (at_builtin; have _t := tok1; refine wpList_push rfl _ _ rfl rfl rfl hown2' (Nat.le_trans (q1_small hP (by omega) hLj (pd_le hP)) (by decide)) ?_; intro v3 w3 hown3; clear tok1; have hcj3 : w3.cell? ⟨w.heap.size, j, none⟩ = some (.slice (A1 j) (L j) (L j)) := (hown3.below.cell (by exact lt_of_cell (hcl.row j hlt))).trans (hcl.row j hlt)) | (at_builtin; refine wpList_push rfl _ _ rfl rfl rfl hown3 (by rw [List.length_append]; have := q1_small (o := false) (n3 := n3) (L := L) (Z := Z) (j := j) hP (by omega) hLj (pd_le (n3 := n3) (j := j) hP); simp only [List.length_singleton]; omega) ?_; intro v4 w4 hown4'))
                  have hown4 := hown4'.cast q2_zero_two
                  clear hown3 hcj hown4'
                  go_loopg [16, 20] (L j) (fun k ev tv wr => ∃ t : Nat, t + k = L j ∧ tv = .int .i64 t ∧ Own w2.heap.size w2 wr ev (Q2 false n3 P L Z j t))
                  case atStart => exact ⟨0, by omega, rfl, hown4⟩
                  case round =>
                    obtain ⟨t, ht, rfl, hown5⟩ := hrel
                    by_cases htl : t < L j
                    · have hcj : wr.cell? ⟨w.heap.size, j, none⟩ = some (.slice (A1 j) (L j) (L j)) := (hown5.below.cell (by exact lt_of_cell (hcl.row j hlt))).trans (hcl.row j hlt)
                      rcases hcl.view j hlt with h0 | ⟨bj, oj, hAj1, hbj⟩
                      · exact absurd h0 (by omega)
                      · rw [hAj1] at hcj
                        have hcz : wr.cell? ⟨bj, oj + t, none⟩ = some (.int .u8 (Z j t)) := (hown5.below.cell (by exact lt_of_cell (hbj t htl))).trans (hbj t htl)
                        have htl' : (t : Int) < (L j : Int) := by omega
                        clear hbj hAj1
                        go_wp2_with (at_builtin; refine wpList_push rfl _ _ rfl rfl rfl hown5 (Nat.le_trans (q2_small hP (by omega) hLj (by omega)) (by decide)) ?_; intro v5 w5 hown6)
                        go_roundg (gk - 1)
                        case measure => omega
                        case rel => exact ⟨t + 1, by omega, by go_num, hown6.cast (q2_succ t)⟩
                    · obtain rfl : t = L j := by omega
                      go_wp2
                      go_roundg (n2 - j - 1)
                      case measure => omega
                      case rel => exact ⟨j + 1, by omega, by go_num, hown5.cast q2_done⟩
              · obtain rfl : j = n2 := by omega
                have hB := built (p := (bits .or .u16 4096 (u % 16))) (prof_or u) hown (by unfold Plain.Fits; rw [if_neg (by simp)]; exact ⟨h14, fun j hj => by rw [len_dt]; exact hA'.out j hj⟩) (Nat.le_trans (enc_small hP (by omega) (fun r hr => by have := hA'.out r hr; omega)) (by decide)) hZ
                have hbel := hbw2.trans (hown.below.mono hgs)
                have hrow : ∀ r, r < j → wr.cell? ⟨w.heap.size, r, none⟩ = some (.slice (A1 r) (L r) (L r)) := fun r hr => (hown.below.cell (by exact lt_of_cell (hcl.row r hr))).trans (hcl.row r hr)
                have hview : ∀ r, r < j → View wr (A1 r) (L r) (Z r) := fun r hr => (hcl.view r hr).below hown.below (hcl.view r hr).lt
                have hLs : ∀ r, r < j → L r ≤ 255 := fun r hr => by have := hA'.out r hr; omega
                clear hown hcl hA'
                go_wp2
                go_loopg [21] j (fun k iv wx => ∃ t m : Nat, t + k = j ∧ iv = .int .i64 t ∧ wx = wr.drewN m)
                case atStart => exact ⟨0, 0, by omega, rfl, rfl⟩
                case round =>
                  obtain ⟨t, m, ht, rfl, rfl⟩ := hrel
                  by_cases hlt : t < j
                  · have hct := hrow t hlt
                    have hvt := hview t hlt
                    have hLt := hLs t hlt
                    have hlt' : (t : Int) < (j : Int) := by omega
                    have hhit := hB.hit t m hlt
                    clear hrow hview hLs hB
                    go_wp2_with (first
                      | (go_at_call 8; refine hhit.mono ?_; rintro e w' ⟨a', c', rfl, hva, m', rfl⟩)
                      | (go_at_call 9; refine (same_any _ _ (L t) _ _ (Z t) _ (by omega) (by exact hva) (by exact hvt)).mono ?_; rintro e w' ⟨rfl, m'', rfl⟩))
                    go_roundg (gk - 1)
                    case measure => omega
                    case rel => exact ⟨t + 1, _, by omega, by go_num, by first | rfl | exact drewN_drewN _ _ _⟩
                  · clear hrow hview hLs
                    go_wp2_with (go_at_call 10; refine (hB.miss _ _ ?hno).mono ?_; (case hno => omega); rintro e w' ⟨rfl, m', rfl⟩)
                    go_ret
                    exact ⟨rfl, below_drewN hbel _⟩
      · go_wp2
        go_ret
        exact ⟨rfl, Below.refl _ _⟩

end Go.Proofs.Qxb6602601a
