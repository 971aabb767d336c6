import Derived.Test.Qxb6602989aJobs
import Derived.Maps.OwnSet
namespace Go.Proofs.Qxb6602989a
open Go.RowKit Go.Maps Go.WideMaps
set_option linter.unusedVariables false

/-- The status in_progress, as bytes. -/
def prog : List UInt8 := [105, 110, 95, 112, 114, 111, 103, 114, 101, 115, 115]

/-- Is job j in progress? -/
def inP (S1 : Nat → ByteArray) (j : Nat) : Bool := (S1 j).toList == prog

/-- Does one of the first t jobs, in progress, name the runner r? -/
def anyB (S1 S4 : Nat → ByteArray) (r : ByteArray) : Nat → Bool
  | 0 => false
  | t + 1 => anyB S1 S4 r t || (inP S1 t && ((S4 t).toList == r.toList))

/-- How many different runners the first t jobs, in progress, name. -/
def cD (S1 S4 : Nat → ByteArray) : Nat → Nat
  | 0 => 0
  | t + 1 => cD S1 S4 t + (if inP S1 t && !anyB S1 S4 (S4 t) t then 1 else 0)

/-- The set of those runners, as a map to true. -/
def Ds (S1 S4 : Nat → ByteArray) : Nat → DataW Unit
  | 0 => .map []
  | t + 1 => if inP S1 t then (Ds S1 S4 t).put (.string (S4 t).data.toList) (.lit (.bool true)) else Ds S1 S4 t

section
variable {S1 S4 : Nat → ByteArray}

theorem isKey (l : List UInt8) : WideAt.IsKeyLit (.string l) := trivial

theorem ds_tidy (t : Nat) : Tidy (Ds S1 S4 t) := by
  induction t with
  | zero => exact tidy_empty
  | succ t ih =>
    show Tidy (if inP S1 t then (Ds S1 S4 t).put (.string (S4 t).data.toList) (.lit (.bool true)) else Ds S1 S4 t)
    split
    · exact ih.put (isKey _) _
    · exact ih

theorem ds_has (r : ByteArray) (t : Nat) : Maps.has (Ds S1 S4 t) (.string r.data.toList) = anyB S1 S4 r t := by
  induction t with
  | zero => rfl
  | succ t ih =>
    show Maps.has (if inP S1 t then (Ds S1 S4 t).put (.string (S4 t).data.toList) (.lit (.bool true)) else Ds S1 S4 t) _ = (anyB S1 S4 r t || (inP S1 t && ((S4 t).toList == r.toList)))
    cases hp : inP S1 t with
    | false => rw [if_neg (by simp), ih]; simp
    | true =>
      rw [if_pos rfl]
      by_cases e : (S4 t).toList = r.toList
      · have e2 : (S4 t).data.toList = r.data.toList := by simpa [ByteArray.toList_eq] using e
        rw [e2, has_put_same (ds_tidy t).isMap (isKey _)]
        simp [e]
      · have e2 : (Lit.string r.data.toList) ≠ Lit.string (S4 t).data.toList := by
          intro h
          injection h with h
          exact e (by simpa [ByteArray.toList_eq] using h.symm)
        rw [has_put_other e2, ih]
        simp [e]

theorem ds_at (k : Lit) (z : DataW Unit) (t : Nat) (h : Maps.has (Ds S1 S4 t) k = true) : (Ds S1 S4 t).atKey k z = .lit (.bool true) := by
  induction t with
  | zero => cases h
  | succ t ih =>
    revert h
    show Maps.has (if inP S1 t then (Ds S1 S4 t).put (.string (S4 t).data.toList) (.lit (.bool true)) else Ds S1 S4 t) k = true → (if inP S1 t then (Ds S1 S4 t).put (.string (S4 t).data.toList) (.lit (.bool true)) else Ds S1 S4 t).atKey k z = _
    cases hp : inP S1 t with
    | false => rw [if_neg (by simp)]; exact ih
    | true =>
      rw [if_pos rfl]
      intro h
      by_cases e : k = .string (S4 t).data.toList
      · subst e
        exact atKey_put_same (ds_tidy t).isMap (isKey _) _ _
      · rw [atKey_put_other e]
        rw [has_put_other e] at h
        exact ih h

theorem ds_size (t : Nat) : Maps.size (Ds S1 S4 t) = cD S1 S4 t := by
  induction t with
  | zero => rfl
  | succ t ih =>
    show Maps.size (if inP S1 t then (Ds S1 S4 t).put (.string (S4 t).data.toList) (.lit (.bool true)) else Ds S1 S4 t) = cD S1 S4 t + (if inP S1 t && !anyB S1 S4 (S4 t) t then 1 else 0)
    cases hp : inP S1 t with
    | false => rw [if_neg (by simp), ih]; simp
    | true =>
      rw [if_pos rfl, size_put (ds_tidy t), ds_has, ih]
      cases anyB S1 S4 (S4 t) t <;> simp

theorem ds_yes {t : Nat} (h : ((S1 t).toList == [105, 110, 95, 112, 114, 111, 103, 114, 101, 115, 115]) = true) : Ds S1 S4 (t + 1) = (Ds S1 S4 t).put (.string (S4 t).data.toList) (.lit (.bool true)) := if_pos h
theorem ds_no {t : Nat} (h : ((S1 t).toList == [105, 110, 95, 112, 114, 111, 103, 114, 101, 115, 115]) = false) : Ds S1 S4 (t + 1) = Ds S1 S4 t := if_neg (by
  have h' : inP S1 t = false := h
  rw [h']; simp)

theorem cD_le (t : Nat) : cD S1 S4 t ≤ t := by
  induction t with
  | zero => exact Nat.le_refl _
  | succ t ih =>
    show cD S1 S4 t + _ ≤ t + 1
    split <;> omega
end

theorem law : Keyed Try.prog 9 := string_keyed Try.underlying9

theorem plainElem_bool_inv {P : Program} {H : Type} {e : TypeId} (he : P.underlying e = some .bool) {v : Value} {z : DataW H × List MemPlace} (h : plainElem P e v = some z) : ∃ x, v = .bool x ∧ z = (.lit (.bool x), []) := by
  unfold plainElem at h
  rw [he] at h
  cases v <;> simp at h
  subst h
  exact ⟨_, rfl, rfl⟩

end Go.Proofs.Qxb6602989a
