import Derived.Test.Qxb6602601aClones
import Derived.Test.Qxb6602601aLaw
namespace Go.Proofs.Qxb6602601a
open Go.RowKit
set_option linter.unusedVariables false

/-- The extension as it has been built so far: ev owns the bytes l, in blocks from B on; below B the world is as w0 was. -/
structure Own (B : Nat) (w0 wr : World) (ev : Value) (l : List Int) : Prop where
  row : wr.ownsRow B 5 1 ev l.length (l.map (Value.int .u8))
  below : Below B w0 wr
  size : B ≤ wr.heap.size

theorem wpList_push {ops : Array Oper} {rest : List Oper} {o : Oper} {a : Act} {Q : Exit → Act → World → Prop} (hgd : o.guard = none) (s x : Operand)
    (ho : o.op = .call { callee := .builtin .append, args := #[s, x], argTypes := #[23, 23] }) {B : Nat} {w0 wr : World} {ev : Value} {l : List Int} {y : Int} (hs : a.eval s = ev) (hx : a.eval x = .slice (some ⟨wr.heap.size, 0, none⟩) 1 1)
    (hown : Own B w0 wr ev l) (hsm : l.length ≤ 1000000) (h : ∀ v' w', Own B w0 w' v' (l ++ [y]) → wpList Try.prog ops Q rest (a.put o.dst v') w') : wpList Try.prog ops Q (o :: rest) a (wr.alloc (.cells #[.int .u8 y] 5)) := by
  obtain ⟨i0, hi, hz0, hz1, hz2⟩ := info_parts Try.info5
  refine wpList_append_own _ hgd s x 23 ho B 5 i0 (.int .u8 0) 1 1 Try.underlying23 hi hz0 hz1 hz2 rfl (by decide) ev l.length (l.map (Value.int .u8)) hs (hown.row.alloc _) ⟨wr.heap.size, 0, none⟩ 1 1 [.int .u8 y] hx rfl (cell_one_new _ _ _) (ints_oneCell .u8 [y])
    (by unfold maxLen; omega) (by omega) (by have := hown.size; simp; omega) ?_
  intro v' w' ho' hg _
  refine h v' w' ⟨by simpa using ho', (hown.below.alloc hown.size _).grown hg (by have := hown.size; simp; omega) (fun k hk => (hown.row.lt k hk).1), ?_⟩
  have h1 := hg.size
  have h2 := hown.size
  simp at h1
  omega

/-- zzCloneBytes at a slice that is not nil: a new block. -/
theorem clone_ptr (x : Addr) (n c : Nat) (Z : Nat → Int) (w : World) (hn : n ≤ 1048576) (h : View w (some x) n Z) :
    Calls Try.prog 7 #[.slice (some x) n c] w fun e w' => e = .returned (.slice (some ⟨w.heap.size, 0, none⟩) n n) ∧ (∀ i, i < n → w'.cell? ⟨w.heap.size, i, none⟩ = some (.int .u8 (Z i))) ∧ Below w.heap.size w w' := by
  by_cases h0 : n = 0
  · subst h0
    exact (clone_zero x 0 c (Nat.le_refl _) w).mono fun e w' ⟨he, hw⟩ => ⟨he, fun i hi => absurd hi (by omega), hw⟩
  · have hlt := h.lt
    rcases h with h | ⟨b, off, hx, h⟩
    · exact absurd h h0
    · cases hx
      exact (clone_some b off n c Z w hn (hlt _ rfl (by omega)) h).mono fun e w' ⟨he, hr, hw⟩ => ⟨he, fun i hi => hr.cell hi, hw⟩

theorem lt_of_cell {w : World} {b i : Nat} {v : Value} (h : w.cell? ⟨b, i, none⟩ = some v) : b < w.heap.size := by
  simp only [World.cell?] at h
  by_cases hb : b < w.heap.size
  · exact hb
  · rw [Array.getElem?_eq_none (by omega)] at h
    simp at h

/-- What the law's later part is told of its two clones. -/
structure Clones (w2 : World) (g2 n2 g3 n3 : Nat) (A : Nat → Option Addr) (L : Nat → Nat) (Z : Nat → Nat → Int) (P : Nat → Int) : Prop where
  row : ∀ r, r < n2 → w2.cell? ⟨g2, r, none⟩ = some (.slice (A r) (L r) (L r))
  view : ∀ r, r < n2 → View w2 (A r) (L r) (Z r)
  pad : ∀ i, i < n3 → w2.cell? ⟨g3, i, none⟩ = some (.int .u8 (P i))

theorem Clones.mk_ {w w1 w2 : World} {n2 n3 : Nat} {A : Nat → Option Addr} {L : Nat → Nat} {Z : Nat → Nat → Int} {P : Nat → Int} (hl : Laid w w1 n2 n2 L Z A) (hp : ∀ i, i < n3 → w2.cell? ⟨w1.heap.size, i, none⟩ = some (.int .u8 (P i))) (hb : Below w1.heap.size w1 w2) :
    Clones w2 w.heap.size n2 w1.heap.size n3 A L Z P :=
  ⟨fun r hr => by rw [(hl.row.of_block (hb.block _ hl.row.lt)).cell hr, if_pos hr], fun r hr => (hl.view r hr).below hb (hl.view r hr).lt, hp⟩

/-- The bytes of row j. -/
def Dt (L : Nat → Nat) (Z : Nat → Nat → Int) (j : Nat) : List Int := (List.range (L j)).map (Z j)
/-- The padding ahead of row j. -/
def Pd (n3 : Nat) (P : Nat → Int) (j : Nat) : Nat := if j < n3 then (P j).toNat else 0

/-- The extension in the midst of row j: so many octets of padding; then the head and so many data. -/
def Q1 (o : Bool) (n3 : Nat) (P : Nat → Int) (L : Nat → Nat) (Z : Nat → Nat → Int) (j p : Nat) : List Int := Plain.enc o (Pd n3 P) (Dt L Z) j ++ List.replicate p 0
def Q2 (o : Bool) (n3 : Nat) (P : Nat → Int) (L : Nat → Nat) (Z : Nat → Nat → Int) (j t : Nat) : List Int :=
  Plain.enc o (Pd n3 P) (Dt L Z) j ++ (List.replicate (Pd n3 P j) 0 ++ (Plain.hdr o j (L j) ++ (List.range t).map (Z j)))

theorem Own.cast {B : Nat} {w0 wr : World} {ev : Value} {l l' : List Int} (h : Own B w0 wr ev l) (e : l = l') : Own B w0 wr ev l' := e ▸ h

section
variable {o : Bool} {n3 : Nat} {P : Nat → Int} {L : Nat → Nat} {Z : Nat → Nat → Int} {j : Nat}
theorem q1_zero : Plain.enc o (Pd n3 P) (Dt L Z) j = Q1 o n3 P L Z j 0 := by simp [Q1]
theorem q1_succ (p : Nat) : Q1 o n3 P L Z j p ++ [0] = Q1 o n3 P L Z j (p + 1) := by simp [Q1, List.replicate_succ']
theorem q2_zero_one : Q1 true n3 P L Z j (Pd n3 P j) ++ [((j : Int) + 1) * 16 + (L j : Int) - 1] = Q2 true n3 P L Z j 0 := by simp [Q1, Q2, Plain.hdr]
theorem q2_zero_two : (Q1 false n3 P L Z j (Pd n3 P j) ++ [(j : Int) + 1]) ++ [(L j : Int)] = Q2 false n3 P L Z j 0 := by simp [Q1, Q2, Plain.hdr]
theorem q2_succ (t : Nat) : Q2 o n3 P L Z j t ++ [Z j t] = Q2 o n3 P L Z j (t + 1) := by simp [Q2, List.range_succ]
theorem q2_done : Q2 o n3 P L Z j (L j) = Plain.enc o (Pd n3 P) (Dt L Z) (j + 1) := by simp [Q2, Plain.enc, Dt]
theorem len_dt : (Dt L Z j).length = L j := by simp [Dt]
theorem pd_le (hP : ∀ i, 0 ≤ P i ∧ P i ≤ 255) : Pd n3 P j ≤ 255 := by
  unfold Pd
  have := hP j
  split <;> omega
theorem enc_small (hP : ∀ i, 0 ≤ P i ∧ P i ≤ 255) (hj : j ≤ 255) (hL : ∀ r, r < j → L r ≤ 255) : (Plain.enc o (Pd n3 P) (Dt L Z) j).length ≤ 130560 := by
  have h := Plain.enc_len o (Pd n3 P) (Dt L Z) 255 255 j (fun i _ => pd_le hP) (fun i hi => by rw [len_dt]; exact hL i hi)
  have : j * (255 + 2 + 255) ≤ 255 * (255 + 2 + 255) := Nat.mul_le_mul_right _ hj
  omega
theorem q1_small (hP : ∀ i, 0 ≤ P i ∧ P i ≤ 255) (hj : j ≤ 255) (hL : ∀ r, r < j → L r ≤ 255) {p : Nat} (hp : p ≤ 255) : (Q1 o n3 P L Z j p).length ≤ 200000 := by
  have h := enc_small (o := o) (n3 := n3) (Z := Z) hP hj hL
  simp only [Q1, List.length_append, List.length_replicate]
  omega
theorem q2_small (hP : ∀ i, 0 ≤ P i ∧ P i ≤ 255) (hj : j ≤ 255) (hL : ∀ r, r < j → L r ≤ 255) {t : Nat} (ht : t ≤ 255) : (Q2 o n3 P L Z j t).length ≤ 200000 := by
  have h := enc_small (o := o) (n3 := n3) (Z := Z) hP hj hL
  have h2 := pd_le (n3 := n3) (j := j) hP
  have h4 : (Plain.hdr o j (L j)).length ≤ 2 := by cases o <;> simp [Plain.hdr]
  simp only [Q2, List.length_append, List.length_replicate, List.length_map, List.length_range]
  omega
end

end Go.Proofs.Qxb6602601a
