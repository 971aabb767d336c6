import Derived.Test.Qxb6602989aCopy
import Derived.Deep.RegionHeld3
namespace Go.Proofs.Qxb6602989a
open Go.RowKit
set_option linter.unusedVariables false

def zeroJob : Value := .agg #[.int .i64 0, .string ⟨#[]⟩, .string ⟨#[]⟩, .slice none 0 0, .string ⟨#[]⟩]
theorem Try.info43 : (Try.prog.info? 43).map (fun i => (i.zero, i.size, i.bytes)) = some (some zeroJob, 5, 80) := by kernel_rfl

/-- The cells of n jobs that were just made. -/
def newJobs (n : Nat) : Array Value := madeCells zeroJob.cells (n * 5)
theorem newJobs_size (n : Nat) : (newJobs n).size = n * 5 := size_madeCells _ _

theorem make_jobs (n : Nat) (hn : n ≤ 4096) (w : World) :
    (Instr.makeSlice 26 (.int .i64 (n : Int)) (.int .i64 (n : Int))).run Try.prog w = .ok (.slice (some ⟨w.heap.size, 0, none⟩) n n) (w.alloc (.cells (newJobs n) 43)) := by
  obtain ⟨i, hi, hz, hs, hb⟩ := info_parts Try.info43
  have h := run_make (P := Try.prog) (w := w) 26 43 i zeroJob Try.underlying26 hi hz .i64 .i64 (n : Int) (n : Int) (by omega) (Int.le_refl _) (by rw [hb]; omega) (by omega)
  rw [hs] at h
  simpa [newJobs] using h

theorem newJobs_row (n : Nat) (w : World) : ∃ f, (w.alloc (.cells (newJobs n) 43)).rowIs w.heap.size 43 (n * 5) f := by
  refine ⟨fun i => (newJobs n)[i]?.getD (.bool false), ?_⟩
  have h := World.rowIs_alloc w (newJobs n) 43 (fun i => (newJobs n)[i]?.getD (.bool false)) (fun i hi => by rw [Array.getElem?_eq_getElem hi]; rfl)
  rw [newJobs_size] at h
  exact h

/-- The first t jobs: what Busy reads of them. -/
def JobsAt (f : Nat → Value) (t : Nat) (S1 S4 : Nat → ByteArray) : Prop :=
  ∀ j, j < t → ∃ (id : Int) (rp : ByteArray) (a : Option Addr) (l c : Nat), f (j * 5) = .int .i64 id ∧ f (j * 5 + 1) = .string (S1 j) ∧ f (j * 5 + 2) = .string rp ∧ f (j * 5 + 3) = .slice a l c ∧ f (j * 5 + 4) = .string (S4 j)

theorem jobs_step {f : Nat → Value} {t : Nat} {S1 S4 : Nat → ByteArray} (h : JobsAt f t S1 S4) (id : Int) (rp : ByteArray) (a : Option Addr) (l c : Nat) :
    JobsAt (fun j => if j = t * 5 + 4 then .string (S4 t) else if j = t * 5 + 3 then .slice a l c else if j = t * 5 + 2 then .string rp else if j = t * 5 + 1 then .string (S1 t) else if j = t * 5 then .int .i64 id else f j) (t + 1) S1 S4 := by
  intro j hj
  by_cases e : j = t
  · subst e
    refine ⟨id, rp, a, l, c, ?_, ?_, ?_, ?_, ?_⟩
    · show (if j * 5 = j * 5 + 4 then _ else if j * 5 = j * 5 + 3 then _ else if j * 5 = j * 5 + 2 then _ else if j * 5 = j * 5 + 1 then _ else if j * 5 = j * 5 then _ else _) = _
      rw [if_neg (by omega), if_neg (by omega), if_neg (by omega), if_neg (by omega), if_pos rfl]
    · show (if j * 5 + 1 = j * 5 + 4 then _ else if j * 5 + 1 = j * 5 + 3 then _ else if j * 5 + 1 = j * 5 + 2 then _ else if j * 5 + 1 = j * 5 + 1 then _ else _) = _
      rw [if_neg (by omega), if_neg (by omega), if_neg (by omega), if_pos rfl]
    · show (if j * 5 + 2 = j * 5 + 4 then _ else if j * 5 + 2 = j * 5 + 3 then _ else if j * 5 + 2 = j * 5 + 2 then _ else _) = _
      rw [if_neg (by omega), if_neg (by omega), if_pos rfl]
    · show (if j * 5 + 3 = j * 5 + 4 then _ else if j * 5 + 3 = j * 5 + 3 then _ else _) = _
      rw [if_neg (by omega), if_pos rfl]
    · show (if j * 5 + 4 = j * 5 + 4 then _ else _) = _
      rw [if_pos rfl]
  · obtain ⟨id', rp', a', l', c', h1, h2, h3, h4, h5⟩ := h j (by omega)
    have key : ∀ q, q < 5 → (if j * 5 + q = t * 5 + 4 then Value.string (S4 t) else if j * 5 + q = t * 5 + 3 then .slice a l c else if j * 5 + q = t * 5 + 2 then .string rp else if j * 5 + q = t * 5 + 1 then .string (S1 t) else if j * 5 + q = t * 5 then .int .i64 id else f (j * 5 + q)) = f (j * 5 + q) := by
      intro q hq
      rw [if_neg (by omega), if_neg (by omega), if_neg (by omega), if_neg (by omega), if_neg (by omega)]
    exact ⟨id', rp', a', l', c', (key 0 (by omega)).trans h1, (key 1 (by omega)).trans h2, (key 2 (by omega)).trans h3, (key 3 (by omega)).trans h4, (key 4 (by omega)).trans h5⟩

/-- The numbers behind a slice's address. -/
def IView (w : World) (a : Option Addr) (n : Nat) (Z : Nat → Int) : Prop :=
  n = 0 ∨ ∃ b off, a = some ⟨b, off, none⟩ ∧ ∀ i, i < n → w.cell? ⟨b, off + i, none⟩ = some (.int .i64 (Z i))

theorem lt_of_cell {w : World} {b i : Nat} {v : Value} (h : w.cell? ⟨b, i, none⟩ = some v) : b < w.heap.size := by
  simp only [World.cell?] at h
  rcases Nat.lt_or_ge b w.heap.size with h' | h'
  · exact h'
  · rw [Array.getElem?_eq_none h'] at h; simp at h

theorem SView.lt {w : World} {a : Option Addr} {n : Nat} {S : Nat → ByteArray} (h : SView w a n S) : ∀ x, a = some x → 0 < n → x.block < w.heap.size := by
  intro x hx hn
  rcases h with h | ⟨b, off, rfl, h⟩
  · omega
  · cases hx; exact lt_of_cell (h 0 hn)

theorem SView.below {B : Nat} {w w' : World} {a : Option Addr} {n : Nat} {S : Nat → ByteArray} (h : SView w a n S) (hb : Below B w w') (hB : ∀ x, a = some x → 0 < n → x.block < B) : SView w' a n S := by
  rcases h with h | ⟨b, off, rfl, h⟩
  · exact .inl h
  · by_cases h0 : n = 0
    · exact .inl h0
    · exact .inr ⟨b, off, rfl, fun i hi => (hb.cell (p := ⟨b, off + i, none⟩) (hB ⟨b, off, none⟩ rfl (by omega))).trans (h i hi)⟩

theorem five_other {w : World} {b o g o0 o1 o2 o3 o4 : Nat} {x0 x1 x2 x3 x4 : Value} (h : ¬ b = g) :
    (((((w.setCell ⟨g, o0, none⟩ x0).setCell ⟨g, o1, none⟩ x1).setCell ⟨g, o2, none⟩ x2).setCell ⟨g, o3, none⟩ x3).setCell ⟨g, o4, none⟩ x4).cell? ⟨b, o, none⟩ = w.cell? ⟨b, o, none⟩ :=
  World.cell?_of_block (w := w) (by rw [Below.heap_setCell _ _ _ _ h, Below.heap_setCell _ _ _ _ h, Below.heap_setCell _ _ _ _ h, Below.heap_setCell _ _ _ _ h, Below.heap_setCell _ _ _ _ h])

theorem after_call {w wr w1 : World} {b0 b1 b2 b3 b4 o0 o1 o2 o3 o4 g N : Nat} {x0 x1 x2 x3 x4 : Value} {f : Nat → Value} (hb : Below wr.drew.heap.size wr.drew w1) (l0 : b0 < w.heap.size) (l1 : b1 < w.heap.size) (l2 : b2 < w.heap.size) (l3 : b3 < w.heap.size) (l4 : b4 < w.heap.size)
    (e0 : wr.cell? ⟨b0, o0, none⟩ = some x0) (e1 : wr.cell? ⟨b1, o1, none⟩ = some x1) (e2 : wr.cell? ⟨b2, o2, none⟩ = some x2) (e3 : wr.cell? ⟨b3, o3, none⟩ = some x3) (e4 : wr.cell? ⟨b4, o4, none⟩ = some x4) (hrow : wr.rowIs g 43 N f) (hbel : Below w.heap.size w wr) :
    w1.cell? ⟨b0, o0, none⟩ = some x0 ∧ w1.cell? ⟨b1, o1, none⟩ = some x1 ∧ w1.cell? ⟨b2, o2, none⟩ = some x2 ∧ w1.cell? ⟨b3, o3, none⟩ = some x3 ∧ w1.cell? ⟨b4, o4, none⟩ = some x4 ∧ w1.rowIs g 43 N f ∧ Below w.heap.size w w1 := by
  have hs : w.heap.size ≤ wr.drew.heap.size := hbel.size
  exact ⟨(hb.cell (p := ⟨b0, o0, none⟩) (by show b0 < _; omega)).trans e0, (hb.cell (p := ⟨b1, o1, none⟩) (by show b1 < _; omega)).trans e1, (hb.cell (p := ⟨b2, o2, none⟩) (by show b2 < _; omega)).trans e2, (hb.cell (p := ⟨b3, o3, none⟩) (by show b3 < _; omega)).trans e3, (hb.cell (p := ⟨b4, o4, none⟩) (by show b4 < _; omega)).trans e4,
    hrow.of_block (hb.block _ hrow.lt), (hbel.drew).trans (hb.mono hs)⟩

set_option maxRecDepth 100000 in
set_option maxHeartbeats 2000000 in
theorem jobs_any (a0 a1 a2 a3 a4 : Option Addr) (n c0 c1 c2 c3 c4 : Nat) (Id : Nat → Int) (S1 S2 S4 : Nat → ByteArray) (A : Nat → Option Addr) (L C : Nat → Nat) (T : Nat → Nat → ByteArray) (w : World) (hn : n ≤ 4096)
    (v0 : IView w a0 n Id) (h : Cols w a1 a2 a3 a4 n n n n S1 S2 S4 A L C T) (hL : ∀ r, r < n → L r ≤ 1048576) :
    Calls Try.prog 9 #[.slice a0 n c0, .slice a1 n c1, .slice a2 n c2, .slice a3 n c3, .slice a4 n c4] w fun e w' =>
      e = .returned (.slice (some ⟨w.heap.size, 0, none⟩) n n) ∧ (∃ f, w'.rowIs w.heap.size 43 (n * 5) f ∧ JobsAt f n S1 S4) ∧ Below w.heap.size w w' := by
  obtain ⟨v1, v2, v3, v4, vI, z1, z2, z4, zT, zL⟩ := h
  have hmk := make_jobs n hn
  go_enter Try.func9, Try.ntmps9
  go_wp2
  go_loopg [13] n (fun k i wr => ∃ (t : Nat) (f : Nat → Value), t + k = n ∧ i = .int .i64 t ∧ wr.rowIs w.heap.size 43 (n * 5) f ∧ JobsAt f t S1 S4 ∧ Below w.heap.size w wr)
  case atStart =>
    obtain ⟨f, hf⟩ := newJobs_row n w
    exact ⟨0, f, by omega, rfl, hf, fun j hj => absurd hj (by omega), (Below.refl _ _).alloc (Nat.le_refl _) _⟩
  case round =>
    obtain ⟨t, f, ht, rfl, hrow, hjobs, hbel⟩ := hrel
    by_cases hlt : t < n
    · rcases v0 with h0 | ⟨b0, o0, rfl, q0⟩
      · exact absurd h0 (by omega)
      rcases v1 with h0 | ⟨b1, o1, rfl, q1⟩
      · exact absurd h0 (by omega)
      rcases v2 with h0 | ⟨b2, o2, rfl, q2⟩
      · exact absurd h0 (by omega)
      rcases v3 with h0 | ⟨b3, o3, rfl, q3⟩
      · exact absurd h0 (by omega)
      rcases v4 with h0 | ⟨b4, o4, rfl, q4⟩
      · exact absurd h0 (by omega)
      have r0 := q0 t hlt
      have r1 := q1 t hlt
      have r2 := q2 t hlt
      have r3 := q3 t hlt
      have r4 := q4 t hlt
      have l0 := lt_of_cell r0
      have l1 := lt_of_cell r1
      have l2 := lt_of_cell r2
      have l3 := lt_of_cell r3
      have l4 := lt_of_cell r4
      have e0 := (hbel.cell (p := ⟨b0, o0 + t, none⟩) l0).trans r0
      have e1 := (hbel.cell (p := ⟨b1, o1 + t, none⟩) l1).trans r1
      have e2 := (hbel.cell (p := ⟨b2, o2 + t, none⟩) l2).trans r2
      have e3 := (hbel.cell (p := ⟨b3, o3 + t, none⟩) l3).trans r3
      have e4 := (hbel.cell (p := ⟨b4, o4 + t, none⟩) l4).trans r4
      have hin : SView wr (A t) (L t) (T t) := (vI t hlt).below hbel (vI t hlt).lt
      have d0 : ¬ b0 = w.heap.size := by omega
      have d1 : ¬ b1 = w.heap.size := by omega
      have d2 : ¬ b2 = w.heap.size := by omega
      have d3 : ¬ b3 = w.heap.size := by omega
      have d4 : ¬ b4 = w.heap.size := by omega
      have hin' : SView wr.drew (A t) (L t) (T t) := hin
      have hLt := hL t hlt
      have hlt' : (t : Int) < (n : Int) := by omega
      have ht0 : (0 : Int) ≤ (t : Int) := by omega
      have hsz := hbel.size
      have hgl := hrow.lt
      clear q0 q1 q2 q3 q4 r0 r1 r2 r3 r4 vI z1 z2 z4 zT zL hL hmk
      go_wp2
      go_region_held3 (fun w' => w'.cell? ⟨b0, o0 + t, none⟩ = some (.int .i64 (Id t)) ∧ w'.cell? ⟨b1, o1 + t, none⟩ = some (.string (S1 t)) ∧ w'.cell? ⟨b2, o2 + t, none⟩ = some (.string (S2 t)) ∧ w'.cell? ⟨b3, o3 + t, none⟩ = some (.slice (A t) (L t) (C t)) ∧ w'.cell? ⟨b4, o4 + t, none⟩ = some (.string (S4 t))) (first | go_keep | (exact ⟨(five_other d0).trans f0, (five_other d1).trans f1, (five_other d2).trans f2, (five_other d3).trans f3, (five_other d4).trans f4⟩))
        (first | (go_at_call 19; refine (copy_any (A t) (L t) (C t) (T t) wr.drew hLt hin').mono ?_; rintro e w1 ⟨a', n', c', rfl, hb1⟩; obtain ⟨f0, f1, f2, f3, f4, hrow1, hbel1⟩ := after_call hb1 l0 l1 l2 l3 l4 e0 e1 e2 e3 e4 hrow hbel; have j0 := hrow1.cell (i := t * 5) (by omega); have j1 := hrow1.cell (i := t * 5 + 1) (by omega); have j2 := hrow1.cell (i := t * 5 + 2) (by omega); have j3 := hrow1.cell (i := t * 5 + 3) (by omega); have j4 := hrow1.cell (i := t * 5 + 4) (by omega); have k0 := hrow1.frozen (t * 5); have k1 := hrow1.frozen (t * 5 + 1); have k2 := hrow1.frozen (t * 5 + 2); have k3 := hrow1.frozen (t * 5 + 3); have k4 := hrow1.frozen (t * 5 + 4)))
      all_goals
        go_wp2
        go_roundg (gk - 1)
        case measure => omega
        case rel => exact ⟨t + 1, _, by omega, by go_num, ((((hrow1.set (t * 5) _).set (t * 5 + 1) _).set (t * 5 + 2) _).set (t * 5 + 3) _).set (t * 5 + 4) _, jobs_step hjobs _ _ _ _ _, ((((hbel1.setCell (Nat.le_refl _) _).setCell (Nat.le_refl _) _).setCell (Nat.le_refl _) _).setCell (Nat.le_refl _) _).setCell (Nat.le_refl _) _⟩
    · obtain rfl : t = n := by omega
      go_wp2
      go_ret
      exact ⟨rfl, ⟨f, hrow, hjobs⟩, hbel⟩

end Go.Proofs.Qxb6602989a
