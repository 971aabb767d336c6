import Derived.Test.Qxb6602963aZZ
namespace Go.Proofs.Qxb6602963a
open Go.RowKit
set_option linter.unusedVariables false

/-- The law's table idx after t vertices. -/
structure IdxOK (vx : Nat → Nat) (n t : Nat) (ix : Nat → Int) : Prop where
  hit : ∀ i, i < t → vx i < n ∧ ix (vx i) = (i : Int)
  miss : ∀ v, (∀ i, i < t → vx i ≠ v) → ix v = -1

theorem IdxOK.start (vx : Nat → Nat) (n : Nat) : IdxOK vx n 0 (fun _ => -1) := ⟨fun i hi => absurd hi (by omega), fun v _ => rfl⟩

theorem IdxOK.step {vx : Nat → Nat} {n t : Nat} {ix : Nat → Int} (h : IdxOK vx n t ix) (ht : vx t < n) (hx : ix (vx t) < 0) : IdxOK vx n (t + 1) (fun v => if v = vx t then (t : Int) else ix v) := by
  refine ⟨fun i hi => ?_, fun v hv => ?_⟩
  · by_cases e : i = t
    · subst e; exact ⟨ht, if_pos rfl⟩
    · have hh := h.hit i (by omega)
      have hne : vx i ≠ vx t := fun e2 => by rw [← e2, hh.2] at hx; omega
      exact ⟨hh.1, by show (if vx i = vx t then _ else _) = _; rw [if_neg hne]; exact hh.2⟩
  · have hne : v ≠ vx t := fun e => hv t (by omega) e.symm
    show (if v = vx t then _ else _) = _
    rw [if_neg hne]
    exact h.miss v (fun i hi => hv i (by omega))

theorem IdxOK.inj {vx : Nat → Nat} {n t : Nat} {ix : Nat → Int} (h : IdxOK vx n t ix) : ∀ i j, i < t → j < t → vx i = vx j → i = j := by
  intro i j hi hj e
  have h1 := (h.hit i hi).2
  have h2 := (h.hit j hj).2
  rw [e, h2] at h1
  omega

/-- What the law's second half is told: the table idx, idom's clone, the answer's two rows. -/
structure Fin3 (w w3 : World) (gI gD g3 g4 n m l2 : Nat) (vx d : Nat → Nat) (ix f3 f4 : Nat → Int) : Prop where
  idx : w3.rowIs gI 21 n (fun v => .int .i32 (ix v))
  dom : ∀ i, 1 ≤ i → i < m → w3.cell? ⟨gD, i, none⟩ = some (.int .i32 (d i : Int))
  domlt : gD < w3.heap.size
  pre : w3.rowIs g3 21 n (fun v => .int .i32 (f3 v))
  post : w3.rowIs g4 21 n (fun v => .int .i32 (f4 v))
  below : Below w.heap.size w w3
  tree : Plain.Tree d m
  iok : IdxOK vx n m ix
  hit : ∀ j, j < m → f3 (vx j) = Plain.AT d m j ∧ f4 (vx j) = Plain.AT d m j + Plain.S d m j
  miss : ∀ u, (∀ j, j < m → vx j ≠ u) → f3 u = -1 ∧ f4 u = -1

theorem Fin3.case {w w3 : World} {gI gD g3 g4 n m l2 : Nat} {vx d : Nat → Nat} {ix f3 f4 : Nat → Int} (h : Fin3 w w3 gI gD g3 g4 n m l2 vx d ix f3 f4) (v : Nat) :
    (ix v = -1 ∧ f3 v = -1 ∧ f4 v = -1) ∨ ∃ i : Nat, i < m ∧ ix v = (i : Int) ∧ f3 v = Plain.AT d m i ∧ f4 v = Plain.AT d m i + Plain.S d m i := by
  by_cases hv : ∃ i, i < m ∧ vx i = v
  · obtain ⟨i, hi, rfl⟩ := hv
    exact .inr ⟨i, hi, (h.iok.hit i hi).2, (h.hit i hi).1, (h.hit i hi).2⟩
  · have hno : ∀ i, i < m → vx i ≠ v := fun i hi e => hv ⟨i, hi, e⟩
    exact .inl ⟨h.iok.miss v hno, (h.miss v hno).1, (h.miss v hno).2⟩

/-- The size model's three tables, after the numbers 1 .. t. -/
structure T6 (w3 wr : World) (gA m : Nat) (d : Nat → Nat) (t : Nat) : Prop where
  s : wr.rowIs w3.heap.size 21 m (fun j => .int .i32 (Plain.S d m j))
  a : wr.rowIs gA 21 m (fun j => .int .i32 ((Plain.tab d m t).1 j))
  x : wr.rowIs (gA + 1) 21 m (fun j => .int .i32 ((Plain.tab d m t).2 j))
  lt : w3.heap.size < gA
  below : Below w3.heap.size w3 wr

theorem T6.start {w3 wb : World} {gA m : Nat} {d : Nat → Nat} (hS : wb.rowIs w3.heap.size 21 m (fun j => .int .i32 (Plain.sz d m (m - 1 - 0) j))) (hA : wb.rowIs gA 21 m (fun _ => .int .i32 0)) (hN : wb.rowIs (gA + 1) 21 m (fun _ => .int .i32 0)) (hlt : w3.heap.size < gA) (hb : Below w3.heap.size w3 wb) :
    T6 w3 ((wb.setCell ⟨gA, 0, none⟩ (.int .i32 0)).setCell ⟨gA + 1, 0, none⟩ (.int .i32 1)) gA m d 0 := by
  refine ⟨((hS.setOther (by show w3.heap.size ≠ gA; omega) _).setOther (by show w3.heap.size ≠ gA + 1; omega) _), ((hA.set 0 _).setOther (by show gA ≠ gA + 1; omega) _).congr (fun j _ => ?_), (((hN.setOther (by show gA + 1 ≠ gA; omega) _).set 0 _)).congr (fun j _ => ?_), hlt, (hb.setCell (by show w3.heap.size ≤ gA; omega) _).setCell (by show w3.heap.size ≤ gA + 1; omega) _⟩
  · show (if j = 0 then Value.int .i32 0 else Value.int .i32 0) = Value.int .i32 0
    split <;> rfl
  · show (if j = 0 then Value.int .i32 1 else Value.int .i32 0) = Value.int .i32 (if j = 0 then 1 else 0)
    split <;> rfl

theorem T6.step {w3 wr : World} {gA m : Nat} {d : Nat → Nat} {t : Nat} (h : T6 w3 wr gA m d t) (hne : d (t + 1) ≠ t + 1) :
    T6 w3 (((wr.setCell ⟨gA, t + 1, none⟩ (.int .i32 ((Plain.tab d m t).2 (d (t + 1))))).setCell ⟨gA + 1, d (t + 1), none⟩ (.int .i32 ((Plain.tab d m t).2 (d (t + 1)) + Plain.S d m (t + 1)))).setCell ⟨gA + 1, t + 1, none⟩ (.int .i32 ((Plain.tab d m t).2 (d (t + 1)) + 1))).drew gA m d (t + 1) := by
  have hlt := h.lt
  refine ⟨(((h.s.setOther (by show w3.heap.size ≠ gA; omega) _).setOther (by show w3.heap.size ≠ gA + 1; omega) _).setOther (by show w3.heap.size ≠ gA + 1; omega) _).drew, ((((h.a.set (t + 1) _).setOther (by show gA ≠ gA + 1; omega) _).setOther (by show gA ≠ gA + 1; omega) _).drew).congr (fun j _ => ?_),
    (((((h.x.setOther (by show gA + 1 ≠ gA; omega) _).set (d (t + 1)) _).set (t + 1) _)).drew).congr (fun j _ => ?_), hlt, (((h.below.setCell (by show w3.heap.size ≤ gA; omega) _).setCell (by show w3.heap.size ≤ gA + 1; omega) _).setCell (by show w3.heap.size ≤ gA + 1; omega) _).drew⟩
  · show (if j = t + 1 then Value.int .i32 _ else Value.int .i32 _) = Value.int .i32 (if j = t + 1 then _ else _)
    split <;> rfl
  · show (if j = t + 1 then Value.int .i32 _ else if j = d (t + 1) then Value.int .i32 _ else Value.int .i32 _) = Value.int .i32 (if j = t + 1 then _ else if j = d (t + 1) then _ else _)
    split
    · rfl
    · split <;> rfl

set_option maxRecDepth 100000 in
set_option maxHeartbeats 4000000 in
theorem main_full (n m l2 b1 off1 c1 b2 off2 c2 : Nat) (Zv Zd : Nat → Int) (w : World) (hn : n ≤ 65536) (hn1 : 1 ≤ n) (hm : m ≤ 65536) (hm1 : 1 ≤ m) (hl2 : m ≤ l2) (hl3 : l2 ≤ 65536) (hb1 : b1 < w.heap.size) (hb2 : b2 < w.heap.size)
    (hV : ∀ i, i < m → w.cell? ⟨b1, off1 + i, none⟩ = some (.int .i32 (Zv i))) (hD : ∀ i, i < l2 → w.cell? ⟨b2, off2 + i, none⟩ = some (.int .i32 (Zd i)))
    (hVb : ∀ i, -2147483648 ≤ Zv i ∧ Zv i ≤ 2147483647) (hDb : ∀ i, -2147483648 ≤ Zd i ∧ Zd i ≤ 2147483647) :
    Calls Try.prog 7 #[.int .i64 (n : Int), .slice (some ⟨b1, off1, none⟩) m c1, .slice (some ⟨b2, off2, none⟩) l2 c2] w fun e w' => e = .returned (.bool true) ∧ Below w.heap.size w w' := by
  have hbytes := bytes_any n (some ⟨b1, off1, none⟩) (some ⟨b2, off2, none⟩) m c1 l2 c2 w (by unfold maxLen; omega) (by unfold maxLen; omega)
  have hmk := run_make_row' (P := Try.prog) 22 21 (.int .i32 0) 4 Try.underlying22 Try.info21 rfl .i64 .i64 n (by omega) (by omega)
  have hmkm := run_make_row' (P := Try.prog) 22 21 (.int .i32 0) 4 Try.underlying22 Try.info21 rfl .i64 .i64 m (by omega) (by omega)
  have q1 : decide ((65536 : Int) < (m : Int)) = false := decide_eq_false (by omega)
  have q2 : decide ((65536 : Int) < (l2 : Int)) = false := decide_eq_false (by omega)
  have q3 : decide ((n : Int) < 1) = false := decide_eq_false (by omega)
  have q4 : decide ((65536 : Int) < (n : Int)) = false := decide_eq_false (by omega)
  have q5 : decide ((m : Int) < 1) = false := decide_eq_false (by omega)
  have q6 : decide (l2 < m) = false := decide_eq_false (by omega)
  go_enter Try.func7, Try.ntmps7
  go_wp2_with (go_at_call 24; refine hbytes.mono ?_; rintro e w' ⟨⟨r, rfl⟩, rfl⟩; cases r)
  all_goals first | (go_ret; exact ⟨rfl, Below.refl _ _⟩) | skip
  clear hbytes q1 q2 q3 q4 q5 q6
  go_loopg [9] n (fun k i wr => ∃ t : Nat, t + k = n ∧ i = .int .i64 t ∧ wr.rowIs w.heap.size 21 n (fun j => .int .i32 (if j < t then -1 else 0)) ∧ Below w.heap.size w wr)
  case atStart => exact ⟨0, by omega, rfl, (World.rowIs_made _ _ _ _).congr (fun i _ => by simp), (Below.refl _ _).alloc (Nat.le_refl _) _⟩
  case round =>
    obtain ⟨t, ht, rfl, hrow, hbel⟩ := hrel
    by_cases hlt : t < n
    · have hd := hrow.cell hlt
      have hf := hrow.frozen t
      have hlt' : (t : Int) < (n : Int) := by omega
      go_wp2
      go_roundg (gk - 1)
      case measure => omega
      case rel => exact ⟨t + 1, by omega, by go_num, (hrow.set t _).congr (fun i _ => by rw [← if_step t i (fun _ => (-1 : Int)) 0]; by_cases e : i = t <;> simp [e]), hbel.setCell (Nat.le_refl _) _⟩
    · go_wp2
      have hrow0 := hrow.congr (g := fun j => Value.int .i32 ((fun _ => -1 : Nat → Int) j)) (fun i hi => by rw [if_pos (by omega)])
      clear hrow ht hlt
      go_loopg [10] m (fun k i wr => ∃ (t : Nat) (ix : Nat → Int), t + k = m ∧ i = .int .i64 t ∧ wr.rowIs w.heap.size 21 n (fun j => .int .i32 (ix j)) ∧ Below w.heap.size w wr ∧ IdxOK (fun i => (Zv i).toNat) n t ix ∧ Aside (∀ i, i < t → 0 ≤ Zv i))
      case atStart => exact ⟨0, _, by omega, rfl, hrow0, hbel, IdxOK.start _ _, fun i hi => absurd hi (by omega)⟩
      case round =>
        clear hbel hrow0
        obtain ⟨t, ix, ht, rfl, hrow, hbel, hix, hpos⟩ := hrel
        by_cases hlt : t < m
        · have hlt' : (t : Int) < (m : Int) := by omega
          have hvb := hVb t
          have hc : wr.cell? ⟨b1, off1 + t, none⟩ = some (.int .i32 (Zv t)) := (hbel.cell (by exact hb1)).trans (hV t hlt)
          by_cases h1 : Zv t < 0
          · go_wp2
            go_ret
            exact ⟨rfl, hbel⟩
          · obtain ⟨x, hx⟩ : ∃ x : Nat, Zv t = (x : Int) := ⟨(Zv t).toNat, by omega⟩
            rw [hx] at hc
            have hX : Aside (Zv t = (x : Int)) := hx
            have hxb : (x : Int) ≤ 2147483647 := by omega
            clear hx h1 hvb
            by_cases h2 : x < n
            · have h2' : (x : Int) < (n : Int) := by omega
              have hcx := hrow.cell h2
              have hfx := hrow.frozen x
              by_cases h3 : 0 ≤ ix x
              · go_wp2
                go_ret
                exact ⟨rfl, hbel⟩
              · have ex : (Zv t).toNat = x := by have := hX.out; omega
                have hst := hix.step (show (fun i => (Zv i).toNat) t < n by show (Zv t).toNat < n; omega) (show ix ((Zv t).toNat) < 0 by rw [ex]; omega)
                have HS : Aside (IdxOK (fun i => (Zv i).toNat) n (t + 1) (fun v => if v = x then (t : Int) else ix v)) := by
                  have h4 := hst
                  simp only [ex] at h4
                  exact h4
                clear hst hix ex
                go_wp2
                go_roundg (gk - 1)
                case measure => omega
                case rel => exact ⟨t + 1, _, by omega, by go_num, (hrow.set x _).congr (fun i _ => by by_cases e : i = x <;> simp [e]), hbel.setCell (Nat.le_refl _) _, HS.out, fun i hi => by rcases Nat.lt_succ_iff_lt_or_eq.1 hi with h | h; exact hpos.out i h; subst h; have := hX.out; omega⟩
            · go_wp2
              go_ret
              exact ⟨rfl, hbel⟩
        · go_wp2
          obtain rfl : t = m := by omega
          have hpos' : Aside (∀ i, i < t → 0 ≤ Zv i) := fun i hi => hpos.out i hi
          clear hpos hlt ht
          obtain ⟨wa, hwa⟩ : ∃ wa, wa = wr := ⟨_, rfl⟩
          rw [← hwa] at hrow hbel ⊢
          clear hwa
          go_loopg [12] (t - 1) (fun k i wr => ∃ s : Nat, s + k = t ∧ 1 ≤ s ∧ i = .int .i64 s ∧ wa = wr ∧ Aside (∀ i, 1 ≤ i → i < s → 0 ≤ Zd i ∧ Zd i < (i : Int)))
          case atStart => exact ⟨1, by omega, by omega, rfl, rfl, fun i h1 h2 => absurd h1 (by omega)⟩
          case round =>
            obtain ⟨s, hs, hs1, rfl, rfl, hA⟩ := hrel
            by_cases hlt : s < t
            · have hlt' : (s : Int) < (l2 : Int) := by omega
              have hdb := hDb s
              have hc : wa.cell? ⟨b2, off2 + s, none⟩ = some (.int .i32 (Zd s)) := (hbel.cell (by exact hb2)).trans (hD s (by omega))
              by_cases h1 : Zd s < 0
              · go_wp2
                go_ret
                exact ⟨rfl, hbel⟩
              · obtain ⟨x, hx⟩ : ∃ x : Nat, Zd s = (x : Int) := ⟨(Zd s).toNat, by omega⟩
                rw [hx] at hc
                have hX : Aside (Zd s = (x : Int)) := hx
                have hxb : (x : Int) ≤ 2147483647 := by omega
                clear hx h1 hdb
                by_cases h2 : x < s
                · go_wp2
                  go_roundg (gk - 1)
                  case measure => omega
                  case rel => exact ⟨s + 1, by omega, by omega, by go_num, rfl, fun i hi1 hi2 => by rcases Nat.lt_succ_iff_lt_or_eq.1 hi2 with h | h; exact hA.out i hi1 h; subst h; have := hX.out; omega⟩
                · go_wp2
                  go_ret
                  exact ⟨rfl, hbel⟩
            · have htree : Plain.Tree (fun i => (Zd i).toNat) t := fun i h1 h2 => by have := hA.out i h1 (by omega); show (Zd i).toNat < i; omega
              have hA' : Aside (∀ i, 1 ≤ i → i < t → 0 ≤ Zd i) := fun i h1 h2 => (hA.out i h1 (by omega)).1
              have tok1 : True := trivial
              clear hA hVb hDb
              go_wp2_with (first
                | (go_at_call 11; have _t := tok1; refine (clone_some b1 off1 t c1 Zv wa (by omega) (Nat.lt_of_lt_of_le hb1 hbel.size) (fun i hi => (hbel.cell (by exact hb1)).trans (hV i hi))).mono ?_; rintro e w1 ⟨rfl, hrV, hbV⟩; clear tok1)
                | (go_at_call 11; refine (clone_some b2 off2 l2 c2 Zd w1 (by omega) (Nat.lt_of_lt_of_le hb2 (Nat.le_trans hbel.size hbV.size)) (fun i hi => (hbV.cell (by exact Nat.lt_of_lt_of_le hb2 hbel.size)).trans ((hbel.cell (by exact hb2)).trans (hD i hi)))).mono ?_; rintro e w2 ⟨rfl, hrD, hbD⟩)
                | (go_at_call 25; refine (zz_any n t l2 wa.heap.size w1.heap.size (fun i => (Zv i).toNat) (fun i => (Zd i).toNat) w2 hn (by omega) hm1 hl2 hl3 htree (by have := hrV.lt; have := hbD.size; omega) hrD.lt (fun i hi => (hix.hit i hi).1) hix.inj ?hv ?hd).mono ?_; (case hv => exact fun i hi => by rw [(hbD.cell (by exact hrV.lt)), hrV.cell hi]; congr 2; have := hpos'.out i hi; show Zv i = ((Zv i).toNat : Int); omega); (case hd => exact fun i h1 hi => by rw [hrD.cell (by omega)]; congr 2; have := hA'.out i h1 hi; show Zd i = ((Zd i).toNat : Int); omega); rintro e w3 ⟨g3, g4, f3, f4, rfl, hp3, hp4, hr1, hr2, hb3⟩))
              have hF : Fin3 w w3 w.heap.size w1.heap.size g3 g4 n t l2 (fun i => (Zv i).toNat) (fun i => (Zd i).toNat) ix f3 f4 := by
                have e1 := hrow.lt
                have e2 := hrV.lt
                have e3 := hrD.lt
                have s1 := hbV.size
                have s2 := hbD.size
                refine ⟨((hrow.of_block (hbV.block _ e1)).of_block (hbD.block _ (by omega))).of_block (hb3.block _ (by omega)), fun i h1 hi => ?_, by have := hb3.size; omega, hp3, hp4, ((hbel.trans (hbV.mono hbel.size)).trans (hbD.mono (by have := hbel.size; omega))).trans (hb3.mono (by have := hbel.size; omega)), htree, hix, hr1, hr2⟩
                rw [(hrD.of_block (hb3.block _ e3)).cell (by omega)]
                congr 2
                have := hA'.out i h1 hi
                show Zd i = ((Zd i).toNat : Int)
                omega
              clear hrow hbel hix hpos' htree hA' hrV hbV hrD hbD hp3 hp4 hr1 hr2 hb3 hV hD hmk hs hs1 hlt
              generalize hgd : (fun i => (Zd i).toNat) = d at hF
              generalize hgv : (fun i => (Zv i).toNat) = vx at hF
              generalize w1.heap.size = gD at hF ⊢
              clear hgd hgv
              go_loopg [16] t (fun k i wr => ∃ s : Nat, s + k = t ∧ i = .int .i64 s ∧ wr.rowIs w3.heap.size 21 t (fun j => .int .i32 (if j < s then 1 else 0)) ∧ Below w3.heap.size w3 wr)
              case atStart => exact ⟨0, by omega, rfl, (World.rowIs_made _ _ _ _).congr (fun i _ => by simp), (Below.refl _ _).alloc (Nat.le_refl _) _⟩
              case round =>
                obtain ⟨s, hs, rfl, hrS, hbS⟩ := hrel
                by_cases hlt : s < t
                · have hd := hrS.cell hlt
                  have hf := hrS.frozen s
                  have hlt' : (s : Int) < (t : Int) := by omega
                  go_wp2
                  go_roundg (gk - 1)
                  case measure => omega
                  case rel => exact ⟨s + 1, by omega, by go_num, (hrS.set s _).congr (fun i _ => by rw [← if_step s i (fun _ => (1 : Int)) 0]; by_cases e : i = s <;> simp [e]), hbS.setCell (Nat.le_refl _) _⟩
                · go_wp2
                  have hrS0 := hrS.congr (g := fun j => Value.int .i32 (Plain.sz d t 0 j)) (fun i hi => by rw [if_pos (by omega)]; rfl)
                  clear hrS hs hlt
                  go_loopg [17] (t - 1) (fun k i wr => i = .int .i64 (k : Int) ∧ k ≤ t - 1 ∧ wr.rowIs w3.heap.size 21 t (fun j => .int .i32 (Plain.sz d t (t - 1 - k) j)) ∧ Below w3.heap.size w3 wr)
                  case atStart => exact ⟨by go_num, Nat.le_refl _, by rw [Nat.sub_self]; exact hrS0, hbS⟩
                  case round =>
                    clear hrS0 hbS
                    obtain ⟨rfl, hkm, hrS, hbS⟩ := hrel
                    cases gk with
                    | zero =>
                      go_upto_region 43 with fail
                      have hlt3 := hrS.lt
                      have hrA := (World.rowIs_made wr (.int .i32 0) t 21).alloc (.cells (madeCells #[.int .i32 0] t) 21)
                      have hrN := World.rowIs_made (wr.alloc (.cells (madeCells #[.int .i32 0] t) 21)) (.int .i32 0) t 21
                      have hrS2 := (hrS.alloc (.cells (madeCells #[.int .i32 0] t) 21)).alloc (.cells (madeCells #[.int .i32 0] t) 21)
                      have hbS2 := (hbS.alloc (o := .cells (madeCells #[.int .i32 0] t) 21) (by omega)).alloc (by simp; omega) (.cells (madeCells #[.int .i32 0] t) 21)
                      rw [show (wr.alloc (.cells (madeCells #[.int .i32 0] t) 21)).heap.size = wr.heap.size + 1 by simp] at hrN
                      generalize (wr.alloc (.cells (madeCells #[.int .i32 0] t) 21)).alloc (.cells (madeCells #[.int .i32 0] t) 21) = wb at hrA hrN hrS2 hbS2 ⊢
                      generalize wr.heap.size = gA at hrA hrN hlt3 ⊢
                      have hcA := hrA.cell (i := 0) (by omega)
                      have hfA := hrA.frozen 0
                      have hcN := hrN.cell (i := 0) (by omega)
                      have hfN := hrN.frozen 0
                      have ht0 : (0 : Int) < (t : Int) := by omega
                      clear hrS hbS
                      go_wp2
                      have hT := T6.start hrS2 hrA hrN hlt3 hbS2
                      clear hcA hfA hcN hfN hrA hrN hrS2 hbS2
                      go_loopg [20] (t - 1) (fun k i wr => ∃ s : Nat, s + 1 + k = t ∧ i = .int .i64 ((s : Int) + 1) ∧ T6 w3 wr gA t d s)
                      case atStart => exact ⟨0, by omega, by go_num, hT⟩
                      case round =>
                        clear hT
                        obtain ⟨q, hq, rfl, hT⟩ := hrel
                        by_cases hlt : q + 1 < t
                        · have hdj := hF.tree (q + 1) (by omega) (by omega)
                          have hcd : wr.cell? ⟨gD, q + 1, none⟩ = some (.int .i32 (d (q + 1) : Int)) := (hT.below.cell (by exact hF.domlt)).trans (hF.dom (q + 1) (by omega) (by omega))
                          have hcx := hT.x.cell (i := d (q + 1)) (by omega)
                          have hfx := hT.x.frozen (d (q + 1))
                          have hca := hT.a.cell hlt
                          have hfa := hT.a.frozen (q + 1)
                          have hcs := hT.s.cell hlt
                          have hcy := hT.x.cell hlt
                          have hfy := hT.x.frozen (q + 1)
                          have hp1 := Plain.next_ok hF.tree (t := q) (q := d (q + 1)) (by omega) (by omega)
                          have hp2 := Plain.S_pos (d := d) (m := t) (q + 1)
                          have hp3 := Plain.next_sum_le hF.tree hlt
                          have hlt' : (q : Int) + 1 < (t : Int) := by omega
                          have hlt2 : (q : Int) + 1 < (l2 : Int) := by omega
                          have hdt : (d (q + 1) : Int) < (t : Int) := by omega
                          have m1 : ¬ w3.heap.size = gA := by omega
                          have m2 : ¬ w3.heap.size = gA + 1 := by omega
                          have hst := hT.step (by omega)
                          clear hT
                          go_wp2
                          go_region
                          all_goals
                            go_wp2
                            go_roundg (gk - 1)
                            case measure => omega
                            case rel => exact ⟨q + 1, by omega, by go_num, hst⟩
                        · obtain rfl : q = t - 1 := by omega
                          go_wp2
                          have hbelE : Below w.heap.size w wr := hF.below.trans (hT.below.mono hF.below.size)
                          have hcI : ∀ v, v < n → wr.cell? ⟨w.heap.size, v, none⟩ = some (.int .i32 (ix v)) := fun v hv => (hT.below.cell (by exact hF.idx.lt)).trans (hF.idx.cell hv)
                          have hc3 : ∀ v, v < n → wr.cell? ⟨g3, v, none⟩ = some (.int .i32 (f3 v)) := fun v hv => (hT.below.cell (by exact hF.pre.lt)).trans (hF.pre.cell hv)
                          have hc4 : ∀ v, v < n → wr.cell? ⟨g4, v, none⟩ = some (.int .i32 (f4 v)) := fun v hv => (hT.below.cell (by exact hF.post.lt)).trans (hF.post.cell hv)
                          have hcA : ∀ i, i < t → wr.cell? ⟨gA, i, none⟩ = some (.int .i32 (Plain.AT d t i)) := fun i hi => hT.a.cell hi
                          have hcS : ∀ i, i < t → wr.cell? ⟨w3.heap.size, i, none⟩ = some (.int .i32 (Plain.S d t i)) := fun i hi => hT.s.cell hi
                          have hcase := hF.case
                          have hatok := fun i (hi : i < t) => Plain.AT_ok hF.tree (k := i) hi
                          have hsp := fun i => Plain.S_pos (d := d) (m := t) i
                          clear hT hF hlt hq
                          go_loopg [22] n (fun k i wx => ∃ v p : Nat, v + k = n ∧ i = .int .i64 v ∧ wx = wr.drewN p)
                          case atStart => exact ⟨0, 0, by omega, rfl, rfl⟩
                          case round =>
                            obtain ⟨v, p, hv, rfl, rfl⟩ := hrel
                            by_cases hlt : v < n
                            · have hlt' : (v : Int) < (n : Int) := by omega
                              have ei := hcI v hlt
                              have e3 := hc3 v hlt
                              have e4 := hc4 v hlt
                              rcases hcase v with ⟨x1, x2, x3⟩ | ⟨i, hi, x1, x2, x3⟩
                              · rw [x1] at ei
                                rw [x2] at e3
                                rw [x3] at e4
                                clear hcI hc3 hc4 hcA hcS hcase hatok hsp x1 x2 x3
                                go_wp2
                                go_roundg (gk - 1)
                                case measure => omega
                                case rel => exact ⟨v + 1, p, by omega, by go_num, rfl⟩
                              · rw [x1] at ei
                                rw [x2] at e3
                                rw [x3] at e4
                                have ea := hcA i hi
                                have es := hcS i hi
                                have hb1' := hatok i hi
                                have hb2' := hsp i
                                have hi' : (i : Int) < (t : Int) := by omega
                                clear hcI hc3 hc4 hcA hcS hcase hatok hsp x1 x2 x3
                                go_wp2
                                go_quiet (fail)
                                go_wp2
                                go_roundg (gk - 1)
                                case measure => omega
                                case rel => exact ⟨v + 1, _, by omega, by go_num, rfl⟩
                            · go_wp2
                              go_ret
                              exact ⟨rfl, below_drewN hbelE _⟩
                    | succ j =>
                      have hdj := hF.tree (j + 1) (by omega) (by omega)
                      have hcd : wr.cell? ⟨gD, j + 1, none⟩ = some (.int .i32 (d (j + 1) : Int)) := (hbS.cell (by exact hF.domlt)).trans (hF.dom (j + 1) (by omega) (by omega))
                      have hc1 := hrS.cell (i := d (j + 1)) (by omega)
                      have hc2 := hrS.cell (i := j + 1) (by omega)
                      have hf1 := hrS.frozen (d (j + 1))
                      have hp1 := Plain.sz_pos (d := d) (m := t) (t - 1 - (j + 1)) (d (j + 1))
                      have hp2 := Plain.sz_pos (d := d) (m := t) (t - 1 - (j + 1)) (j + 1)
                      have hp3 := Plain.sz_sum_le hF.tree (j := j) (by omega)
                      have hstep := Plain.sz_step (d := d) (m := t) (j := j) (by omega)
                      have HST : Aside (∀ v, Plain.sz d t (t - 1 - j) v = if v = d (j + 1) then Plain.sz d t (t - 1 - (j + 1)) v + Plain.sz d t (t - 1 - (j + 1)) (j + 1) else Plain.sz d t (t - 1 - (j + 1)) v) := hstep
                      clear hstep
                      go_wp2
                      go_region
                      all_goals
                        go_wp2
                        go_roundg j
                        case measure => omega
                        case rel => exact ⟨by go_num, by omega, ((hrS.set (d (j + 1)) _).drew).congr (fun i _ => by rw [HST.out i]; by_cases e : i = d (j + 1) <;> simp [e]), (hbS.setCell (Nat.le_refl _) _).drew⟩

end Go.Proofs.Qxb6602963a
