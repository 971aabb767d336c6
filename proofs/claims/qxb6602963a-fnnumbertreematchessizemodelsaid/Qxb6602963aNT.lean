import Derived.Test.Qxb6602963aMem
namespace Go.Proofs.Qxb6602963a
open Go.RowKit
set_option linter.unusedVariables false

set_option maxRecDepth 100000 in
set_option maxHeartbeats 1000000 in
theorem nt_any (n m k2 b1 b2 : Nat) (vx d : Nat → Nat) (w : World) (hn : n ≤ 65536) (hm : m ≤ 65536) (hm1 : 1 ≤ m) (hk2 : m ≤ k2) (hk3 : k2 ≤ 65536) (htree : Plain.Tree d m) (hb1 : b1 < w.heap.size) (hb2 : b2 < w.heap.size)
    (hvn : ∀ i, i < m → vx i < n) (hvi : ∀ i j, i < m → j < m → vx i = vx j → i = j) (hV : ∀ i, i < m → w.cell? ⟨b1, i, none⟩ = some (.int .i32 (vx i : Int))) (hD : ∀ i, 1 ≤ i → i < m → w.cell? ⟨b2, i, none⟩ = some (.int .i32 (d i : Int))) :
    Calls Try.prog 28 #[.int .i64 (n : Int), .slice (some ⟨b1, 0, none⟩) m m, .slice (some ⟨b2, 0, none⟩) k2 k2] w fun e w' => ∃ (g3 g4 : Nat) (f3 f4 : Nat → Int), e = .returned (.agg #[.slice (some ⟨g3, 0, none⟩) n n, .slice (some ⟨g4, 0, none⟩) n n]) ∧ w'.rowIs g3 21 n (fun v => .int .i32 (f3 v)) ∧ w'.rowIs g4 21 n (fun v => .int .i32 (f4 v)) ∧
      (∀ j, j < m → f3 (vx j) = Plain.AT d m j ∧ f4 (vx j) = Plain.AT d m j + Plain.S d m j) ∧ (∀ u, (∀ j, j < m → vx j ≠ u) → f3 u = -1 ∧ f4 u = -1) ∧ Below w.heap.size w w' := by
  have hmk := run_make_row' (P := Try.prog) 22 21 (.int .i32 0) 4 Try.underlying22 Try.info21 rfl .i64 .i64 m (by omega) (by omega)
  have hmkn := run_make_row' (P := Try.prog) 22 21 (.int .i32 0) 4 Try.underlying22 Try.info21 rfl .i64 .i64 n (by omega) (by omega)
  go_enter Try.func28, Try.ntmps28
  go_wp2
  go_cut [8, 9] (fun s8 s9 wx => ∃ g1 g2, s8 = .slice (some ⟨g1, 0, none⟩) m m ∧ s9 = .slice (some ⟨g2, 0, none⟩) m m ∧ K1 w wx g1 g2 m (fun _ => 0) (fun _ => 0))
  case first =>
    go_region
    all_goals (go_wp2_with fail; go_meet; first | exact ⟨_, _, rfl, rfl, (K1.start w m).drew⟩ | exact ⟨_, _, rfl, rfl, (K1.start w m).swap.drew⟩)
  case rest =>
    obtain ⟨g1, g2, rfl, rfl, hK⟩ := hcut
    go_wp2
    go_loopg [25] m (fun k iv wr => ∃ t : Nat, t + k = m ∧ iv = .int .i64 t ∧ K1 w wr g1 g2 m (fun v => if v < t then -1 else 0) (fun _ => 0))
    case atStart => exact ⟨0, by omega, rfl, hK.congr (fun v _ => by simp) (fun v _ => rfl)⟩
    case round =>
      obtain ⟨t, ht, rfl, hK⟩ := hrel
      by_cases hlt : t < m
      · have hc := hK.first.cell hlt
        have hf := hK.first.frozen t
        have hlt' : (t : Int) < (m : Int) := by omega
        go_wp2
        go_roundg (gk - 1)
        case measure => omega
        case rel => exact ⟨t + 1, by omega, by go_num, (hK.setFirst t (-1)).congr (fun v _ => if_step t v (fun _ => (-1 : Int)) 0) (fun v _ => rfl)⟩
      · go_wp2
        have hK := hK.congr (kf' := fun v => Plain.nc d m v 0) (kn' := fun i => if m - 1 < i then Plain.nc d m (d i) (m - 1 - i) else 0) (fun v hv => by rw [if_pos (by omega)]; rfl) (fun v hv => by rw [if_neg (by omega)])
        go_loopg [11] (m - 1) (fun k iv wr => iv = .int .i32 (k : Int) ∧ k ≤ m - 1 ∧ K1 w wr g1 g2 m (fun v => Plain.nc d m v (m - 1 - k)) (fun i => if k < i then Plain.nc d m (d i) (m - 1 - i) else 0))
        case atStart => exact ⟨by go_num, Nat.le_refl _, by rw [Nat.sub_self]; exact hK⟩
        case round =>
          obtain ⟨rfl, hkm, hK⟩ := hrel
          cases gk with
          | zero =>
            go_wp2
            rw [Nat.sub_zero] at hK
            go_cut [12] (fun s12 wx => ∃ g3 g4 gd, s12 = .pointer (some ⟨gd, 0, none⟩) ∧ K2 w wx g1 g2 g3 g4 gd m n (fun v => Plain.nc d m v (m - 1)) (fun i => if 0 < i then Plain.nc d m (d i) (m - 1 - i) else 0) (fun _ => 0) (fun _ => 0))
            case first =>
              go_region
              all_goals
                go_wp2_with fail
                go_meet
                first | exact ⟨_, _, _, rfl, (K2.of_blocks (g3 := wr.heap.size) (g4 := wr.heap.size + 1) (gd := wr.heap.size + 1 + 1) hK (below3 _ _ _ _) (blk3_3 _ _ _ _) (blk3_1 _ _ _ _) (blk3_2 _ _ _ _) (by omega)).drew⟩ | exact ⟨_, _, _, rfl, (K2.of_blocks (g3 := wr.heap.size) (g4 := wr.heap.size + 1 + 1) (gd := wr.heap.size + 1) hK (below3 _ _ _ _) (blk3_2 _ _ _ _) (blk3_1 _ _ _ _) (blk3_3 _ _ _ _) (by omega)).drew⟩ | exact ⟨_, _, _, rfl, (K2.of_blocks (g3 := wr.heap.size + 1) (g4 := wr.heap.size) (gd := wr.heap.size + 1 + 1) hK (below3 _ _ _ _) (blk3_3 _ _ _ _) (blk3_2 _ _ _ _) (blk3_1 _ _ _ _) (by omega)).drew⟩ | exact ⟨_, _, _, rfl, (K2.of_blocks (g3 := wr.heap.size + 1) (g4 := wr.heap.size + 1 + 1) (gd := wr.heap.size) hK (below3 _ _ _ _) (blk3_1 _ _ _ _) (blk3_2 _ _ _ _) (blk3_3 _ _ _ _) (by omega)).drew⟩ | exact ⟨_, _, _, rfl, (K2.of_blocks (g3 := wr.heap.size + 1 + 1) (g4 := wr.heap.size) (gd := wr.heap.size + 1) hK (below3 _ _ _ _) (blk3_2 _ _ _ _) (blk3_3 _ _ _ _) (blk3_1 _ _ _ _) (by omega)).drew⟩ | exact ⟨_, _, _, rfl, (K2.of_blocks (g3 := wr.heap.size + 1 + 1) (g4 := wr.heap.size + 1) (gd := wr.heap.size) hK (below3 _ _ _ _) (blk3_1 _ _ _ _) (blk3_3 _ _ _ _) (blk3_2 _ _ _ _) (by omega)).drew⟩
            case rest =>
              obtain ⟨g3, g4, gd, rfl, hK2⟩ := hcut
              clear hK
              go_wp2
              go_loopg [62] n (fun k iv wr => ∃ t : Nat, t + k = n ∧ iv = .int .i64 t ∧ K2 w wr g1 g2 g3 g4 gd m n (fun v => Plain.nc d m v (m - 1)) (fun i => if 0 < i then Plain.nc d m (d i) (m - 1 - i) else 0) (fun v => if v < t then -1 else 0) (fun v => if v < t then -1 else 0))
              case atStart => exact ⟨0, by omega, rfl, hK2.congr (fun v _ => by simp) (fun v _ => by simp)⟩
              case round =>
                clear hK2
                obtain ⟨t, ht, rfl, hK2⟩ := hrel
                by_cases hlt : t < n
                · have hs0 := hK2.s0
                  have hs1 := hK2.s1
                  have hc3 := hK2.pre.cell hlt
                  have hf3 := hK2.pre.frozen t
                  have hc4 := hK2.post.cell hlt
                  have hf4 := hK2.post.frozen t
                  have hlt' : (t : Int) < (n : Int) := by omega
                  have n34 : ¬ g3 = g4 := hK2.n3.2.2.1
                  have n3d : ¬ g3 = gd := hK2.n3.2.2.2
                  have n4d : ¬ g4 = gd := hK2.n4.2.2
                  go_wp2
                  go_region
                  all_goals
                    go_wp2
                    go_roundg (gk - 1)
                    case measure => omega
                    case rel => exact ⟨t + 1, by omega, by go_num, (((hK2.setPre t (-1)).setPost t (-1)).drew).congr (fun v _ => if_step t v (fun _ => (-1 : Int)) 0) (fun v _ => if_step t v (fun _ => (-1 : Int)) 0)⟩
                · go_wp2
                  have hKa := hK2.later (B := wr.heap.size) ((Below.refl _ _).alloc (Nat.le_refl _) (.cells #[.int .i32 0] 21)) hK2.lts
                  have hst := Stk.start (own_start wr)
                  have hlts := hK2.lts
                  have hszy : wr.heap.size < (wr.alloc (.cells #[.int .i32 0] 21)).heap.size := by simp
                  clear hK2
                  generalize wr.alloc (.cells #[.int .i32 0] 21) = wy at hKa hst hszy ⊢
                  generalize wr.heap.size = B at hst hlts hszy ⊢
                  have hv0 : wy.cell? ⟨b1, 0, none⟩ = some (.int .i32 (vx 0 : Int)) := (hKa.k1.below.cell (by exact hb1)).trans (hV 0 (by omega))
                  have hvx0 := hvn 0 (by omega)
                  have hs0 := hKa.s0
                  have hc3 := hKa.pre.cell hvx0
                  have hf3 := hKa.pre.frozen (vx 0)
                  have hm1' : (0 : Int) < (m : Int) := by omega
                  have hvx0' : (vx 0 : Int) < (n : Int) := by omega
                  go_region
                  all_goals go_wp2
                  have hDS := DS.start htree hm1 hvi (by omega : n ≤ t) hKa hst hlts.2.2.1
                  clear hKa hst hs0 hc3 hf3 hv0 ht hlt
                  go_loopg [14, 15] (2 * m + 1) (fun k cv wv wr => ∃ (cnt : Nat) (st : List Nat) (g cap : Nat) (vis : Nat → Prop) (kf f3 f4 : Nat → Int), cv = .int .i32 (cnt : Int) ∧ wv = .slice (some ⟨g, 0, none⟩) st.length cap ∧ cnt < m ∧ 2 * (m - 1 - cnt) + st.length ≤ k ∧ k ≤ 2 * m + 1 ∧ B ≤ wr.heap.size ∧ DS w wr g1 g2 g3 g4 gd m n d vx B cnt st g cap vis kf f3 f4)
                  case atStart => exact ⟨0, [0], B, 1, _, _, _, _, rfl, rfl, by omega, by simp; omega, by omega, by simp; omega, hDS⟩
                  case round =>
                    clear hDS
                    obtain ⟨cnt, st, g, cap, vis, kf, f3, f4, rfl, rfl, hcm, hme, hgk, hBs, hDS⟩ := hrel
                    obtain ⟨hK2, hdfs, hstk⟩ := hDS
                    cases st with
                    | nil =>
                      have hs0 := hK2.s0
                      have hs1 := hK2.s1
                      have hr0 := hK2.k1.res.cell (i := 0) (by omega)
                      have hr1 := hK2.k1.res.cell (i := 1) (by omega)
                      have hq0 := hK2.k1.res.frozen 0
                      have hq1 := hK2.k1.res.frozen 1
                      have hres := Plain.dfs_result htree hdfs
                      have hpre := hK2.pre
                      have hpost := hK2.post
                      have hbel := hK2.k1.below
                      have hb3 := hK2.b3
                      clear hK2 hdfs hstk
                      go_wp2
                      exact bodyPost_ret (v := .agg #[.slice (some ⟨g3, 0, none⟩) n n, .slice (some ⟨g4, 0, none⟩) n n]) (by simp [results, Try.results28, go_sem, hr0, hr1]) rfl ⟨g3, g4, f3, f4, rfl, ((hpre.setOther (by show g3 ≠ w.heap.size; omega) _).setOther (by show g3 ≠ w.heap.size; omega) _), ((hpost.setOther (by show g4 ≠ w.heap.size; omega) _).setOther (by show g4 ≠ w.heap.size; omega) _), hres.1, hres.2, (hbel.setCell (Nat.le_refl _) _).setCell (Nat.le_refl _) _⟩
                    | cons v r =>
                      have hvm := (hdfs.inn v (by simp)).1
                      have htop := hstk.top
                      obtain ⟨hle1, hle2, hle3⟩ := hstk.le
                      unfold maxLen at hle3
                      simp only [List.length_cons] at hle2 hme
                      have hcf := hK2.k1.first.cell hvm
                      have hff := hK2.k1.first.frozen v
                      have hvm' : (v : Int) < (m : Int) := by omega
                      rcases hdfs.ptr_cases htree hvm with hk | ⟨k, hk, hkm⟩
                      · rw [hk] at hcf
                        have hs1 := hK2.s1
                        have hvv : wr.cell? ⟨b1, v, none⟩ = some (.int .i32 (vx v : Int)) := (hK2.k1.below.cell (by exact hb1)).trans (hV v hvm)
                        have hvxn := hvn v hvm
                        have hc4 := hK2.post.cell hvxn
                        have hf4 := hK2.post.frozen (vx v)
                        have hvxn' : (vx v : Int) < (n : Int) := by omega
                        have hD := DS.pop htree hvi hK2 hdfs hstk hk hlts.2.2.2.1
                        clear hK2 hdfs hstk
                        go_wp2
                        go_region
                        all_goals
                          go_wp2
                          go_roundg (gk - 1)
                          case measure => omega
                          case rel => exact ⟨cnt, r, g, cap, _, _, _, _, rfl, rfl, hcm, by omega, by omega, by simpa using hBs, hD⟩
                      · have hk1 : 1 ≤ k := (hdfs.child htree hvm hk).1
                        rw [hk] at hcf
                        have hs0 := hK2.s0
                        have hcn := hK2.k1.next.cell hkm
                        simp only [if_pos (show 0 < k by omega)] at hcn
                        have hvv : wr.cell? ⟨b1, k, none⟩ = some (.int .i32 (vx k : Int)) := (hK2.k1.below.cell (by exact hb1)).trans (hV k hkm)
                        have hvxn := hvn k hkm
                        have hc3 := hK2.pre.cell hvxn
                        have hf3 := hK2.pre.frozen (vx k)
                        have hvxn' : (vx k : Int) < (n : Int) := by omega
                        have hkm' : (k : Int) < (m : Int) := by omega
                        have n1d : ¬ gd = g1 := hK2.nd.1
                        have n31 : ¬ g3 = g1 := hK2.n3.1
                        have nb1 : ¬ b1 = g1 := by have := hK2.k1.b1; omega
                        obtain ⟨hcnt, hK3, hdfs3, hstk3⟩ := DS.push htree hvi hK2 hdfs hstk hk hlts.1 hlts.2.2.1
                        clear hK2 hdfs hstk
                        go_wp2
                        go_region
                        all_goals
                          have hBs3 : B ≤ ((wr.setCell ⟨g1, v, none⟩ (.int .i32 (Plain.nc d m (d k) (m - 1 - k)))).setCell ⟨g3, vx k, none⟩ (.int .i32 ((cnt : Int) + 1))).drew.heap.size := by simpa using hBs
                          generalize ((wr.setCell ⟨g1, v, none⟩ (.int .i32 (Plain.nc d m (d k) (m - 1 - k)))).setCell ⟨g3, vx k, none⟩ (.int .i32 ((cnt : Int) + 1))).drew = W3 at hK3 hstk3 hBs3 ⊢
                          go_wp2_with (at_builtin; refine wpList_pushStk (k := k) rfl _ _ rfl rfl rfl hstk3 (by simp only [List.length_cons]; omega) hBs3 ?_; intro v' W4 hst4 hb4)
                          obtain ⟨g', cap', rfl, hstk4⟩ := hst4
                          go_roundg (gk - 1)
                          case measure => omega
                          case rel => exact ⟨cnt + 1, k :: v :: r, g', cap', _, _, _, _, by go_num, rfl, hcnt, by simp only [List.length_cons]; omega, by omega, Nat.le_trans hBs3 hb4.size, ⟨hK3.later hb4 hlts, hdfs3, hstk4⟩⟩
          | succ j =>
            have hdj := htree (j + 1) (by omega) (by omega)
            have hcd : wr.cell? ⟨b2, j + 1, none⟩ = some (.int .i32 (d (j + 1) : Int)) := (hK.below.cell (by exact hb2)).trans (hD (j + 1) (by omega) (by omega))
            have hcf := hK.first.cell (i := d (j + 1)) (by omega)
            have hff := hK.first.frozen (d (j + 1))
            have hcn := hK.next.cell (i := j + 1) (by omega)
            have hfn := hK.next.frozen (j + 1)
            have hne : ¬ g1 = g2 := hK.ne
            have kf_step : ∀ v, (if v = d (j + 1) then ((j + 1 : Nat) : Int) else Plain.nc d m v (m - 1 - (j + 1))) = Plain.nc d m v (m - 1 - j) := by
              intro v
              rw [Plain.nc_step d (j := j) v (by omega)]
              by_cases e : v = d (j + 1)
              · rw [if_pos e, if_pos e.symm]
              · rw [if_neg e, if_neg (fun h => e h.symm)]
            have kn_step : ∀ i, (if i = j + 1 then Plain.nc d m (d (j + 1)) (m - 1 - (j + 1)) else if j + 1 < i then Plain.nc d m (d i) (m - 1 - i) else 0) = if j < i then Plain.nc d m (d i) (m - 1 - i) else 0 := by
              intro i
              by_cases e : i = j + 1
              · subst e; rw [if_pos rfl, if_pos (by omega)]
              · rw [if_neg e]
                by_cases h : j + 1 < i
                · rw [if_pos h, if_pos (by omega)]
                · rw [if_neg h, if_neg (by omega)]
            go_wp2
            go_region
            all_goals
              go_wp2
              go_roundg j
              case measure => omega
              case rel => exact ⟨by go_num, by omega, (((hK.setNext (j + 1) _).setFirst (d (j + 1)) _).drew).congr (fun v _ => kf_step v) (fun i _ => kn_step i)⟩

end Go.Proofs.Qxb6602963a
