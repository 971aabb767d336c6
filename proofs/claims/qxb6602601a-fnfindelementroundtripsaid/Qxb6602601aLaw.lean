import Derived.Test.Qxb6602601aPlain
namespace Go.Proofs.Qxb6602601a.Plain

/-- An element's head: one octet (ID and length less one), or two (ID, length). -/
def hdr (o : Bool) (j l : Nat) : List Int := if o = true then [((j : Int) + 1) * 16 + (l : Int) - 1] else [(j : Int) + 1, (l : Int)]

/-- The first j elements laid out, padding ahead of each. -/
def enc (o : Bool) (pad : Nat → Nat) (D : Nat → List Int) : Nat → List Int
  | 0 => []
  | j + 1 => enc o pad D j ++ (List.replicate (pad j) 0 ++ (hdr o j (D j).length ++ D j))

/-- The m elements from j on. -/
def sfx (o : Bool) (pad : Nat → Nat) (D : Nat → List Int) : Nat → Nat → List Int
  | 0, _ => []
  | m + 1, j => List.replicate (pad j) 0 ++ (hdr o j (D j).length ++ (D j ++ sfx o pad D m (j + 1)))

theorem enc_sfx (o : Bool) (pad : Nat → Nat) (D : Nat → List Int) (m : Nat) : ∀ j, enc o pad D (j + m) = enc o pad D j ++ sfx o pad D m j := by
  induction m with
  | zero => intro j; simp [sfx]
  | succ m ih =>
    intro j
    have h := ih (j + 1)
    rw [show j + (m + 1) = j + 1 + m by omega, h]
    simp [enc, sfx, List.append_assoc]

/-- The list fits the form. -/
def Fits (o : Bool) (k : Nat) (D : Nat → List Int) : Prop :=
  if o = true then k ≤ 14 ∧ ∀ j, j < k → 1 ≤ (D j).length ∧ (D j).length ≤ 16 else k ≤ 255 ∧ ∀ j, j < k → (D j).length ≤ 255

theorem getD_drop {l : List Int} {i : Nat} {x : Int} {r : List Int} (h : l.drop i = x :: r) : l.getD i 0 = x ∧ i < l.length ∧ l.drop (i + 1) = r ∧ l.length = i + 1 + r.length := by
  have hl : i < l.length := by
    apply Nat.lt_of_not_le
    intro hle
    rw [List.drop_eq_nil_of_le hle] at h
    cases h
  have hd := List.drop_eq_getElem_cons hl
  rw [h] at hd
  injection hd with h1 h2
  have hlen := congrArg List.length h
  rw [List.length_drop, List.length_cons] at hlen
  refine ⟨?_, hl, h2.symm, by omega⟩
  rw [List.getD_eq_getElem?_getD, List.getElem?_eq_getElem hl, Option.getD_some, h1]

theorem drop_more {l : List Int} {i : Nat} {a r : List Int} (h : l.drop i = a ++ r) : l.drop (i + a.length) = r := by
  rw [← List.drop_drop, h, List.drop_left]

theorem findZ_pads (o : Bool) (id : Int) (l : List Int) (r : List Int) (p : Nat) : ∀ (f i : Nat), l.drop i = List.replicate p 0 ++ r → p ≤ f →
    findZ o id l.length (fun i => l.getD i 0) f i = findZ o id l.length (fun i => l.getD i 0) (f - p) (i + p) := by
  induction p with
  | zero => intro f i _ _; rfl
  | succ p ih =>
    intro f i h hf
    obtain ⟨g, rfl⟩ : ∃ g, f = g + 1 := ⟨f - 1, by omega⟩
    rw [List.replicate_succ, List.cons_append] at h
    obtain ⟨h1, h2, h3, _⟩ := getD_drop h
    rw [findZ, if_pos h2, if_pos h1, ih g (i + 1) h3 (by omega)]
    congr 1 <;> omega

/-- One element's head read. -/
theorem findZ_item (o : Bool) (id : Int) (l : List Int) (k j : Nat) (D : Nat → List Int) (r : List Int) (hfit : Fits o k D) (hj : j < k) (f i : Nat) (h : l.drop i = hdr o j (D j).length ++ (D j ++ r)) :
    findZ o id l.length (fun i => l.getD i 0) (f + 1) i =
      if (j : Int) + 1 = id then some (i + (hdr o j (D j).length).length, (D j).length) else findZ o id l.length (fun i => l.getD i 0) f (i + (hdr o j (D j).length).length + (D j).length) := by
  cases o with
  | true =>
    simp only [Fits, if_true] at hfit
    obtain ⟨hk, hD⟩ := hfit
    have hD := hD j hj
    simp only [hdr, if_true, List.cons_append, List.nil_append, List.length_cons, List.length_nil] at h ⊢
    obtain ⟨h1, h2, h3, h4⟩ := getD_drop h
    rw [List.length_append] at h4
    rw [findZ, if_pos h2, h1, if_neg (by omega), if_pos rfl, if_neg (by omega), if_neg (by omega)]
    have e1 : (((j : Int) + 1) * 16 + ((D j).length : Int) - 1) / 16 = (j : Int) + 1 := by omega
    have e2 : ((((j : Int) + 1) * 16 + ((D j).length : Int) - 1) % 16 + 1).toNat = (D j).length := by omega
    rw [e1, e2]
  | false =>
    simp only [Fits] at hfit
    rw [if_neg (by simp)] at hfit
    obtain ⟨hk, hD⟩ := hfit
    have hD := hD j hj
    have hh : hdr false j (D j).length = [(j : Int) + 1, ((D j).length : Int)] := by simp [hdr]
    rw [hh] at h ⊢
    simp only [List.cons_append, List.nil_append, List.length_cons, List.length_nil] at h ⊢
    obtain ⟨h1, h2, h3, h4⟩ := getD_drop h
    obtain ⟨g1, g2, g3, g4⟩ := getD_drop h3
    rw [List.length_append] at g4
    rw [findZ, if_pos h2, h1, if_neg (by omega), if_neg (by simp), if_neg (by omega), g1, if_neg (by omega)]
    simp

theorem hdr_pos (o : Bool) (j l : Nat) : 1 ≤ (hdr o j l).length := by
  cases o <;> simp [hdr]

/-- WHAT IS LAID OUT IS FOUND: from the element j on. -/
theorem findZ_sfx (o : Bool) (id : Int) (l : List Int) (k : Nat) (pad : Nat → Nat) (D : Nat → List Int) (hfit : Fits o k D) (m : Nat) : ∀ (j f i : Nat), j + m = k → l.drop i = sfx o pad D m j → l.length - i ≤ f → i ≤ l.length →
    (¬ ((j : Int) + 1 ≤ id ∧ id ≤ (k : Int)) → findZ o id l.length (fun i => l.getD i 0) f i = none) ∧
    (∀ q : Nat, j ≤ q → q < k → id = (q : Int) + 1 → ∃ s, findZ o id l.length (fun i => l.getD i 0) f i = some (s, (D q).length) ∧ ∃ r, l.drop s = D q ++ r) := by
  induction m with
  | zero =>
    intro j f i hjk h hf hi
    have hlen := congrArg List.length h
    simp only [List.length_drop, sfx, List.length_nil] at hlen
    refine ⟨fun _ => ?_, fun q h1 h2 _ => absurd h1 (by omega)⟩
    cases f with
    | zero => rfl
    | succ f => rw [findZ, if_neg (by omega)]
  | succ m ih =>
    intro j f i hjk h hf hi
    simp only [sfx] at h
    have hlen := congrArg List.length h
    simp only [List.length_drop, List.length_append, List.length_replicate] at hlen
    have hh := hdr_pos o j (D j).length
    have hd1 := drop_more h
    rw [List.length_replicate] at hd1
    have hd2 := drop_more hd1
    have hd3 := drop_more hd2
    obtain ⟨g, hg⟩ : ∃ g, f - pad j = g + 1 := ⟨f - pad j - 1, by omega⟩
    have e : findZ o id l.length (fun i => l.getD i 0) f i = if (j : Int) + 1 = id then some (i + pad j + (hdr o j (D j).length).length, (D j).length) else findZ o id l.length (fun i => l.getD i 0) g (i + pad j + (hdr o j (D j).length).length + (D j).length) := by
      rw [findZ_pads o id l _ (pad j) f i h (by omega), hg]
      exact findZ_item o id l k j D _ hfit (by omega) g (i + pad j) hd1
    rw [e]
    have IH := ih (j + 1) g (i + pad j + (hdr o j (D j).length).length + (D j).length) (by omega) hd3 (by omega) (by omega)
    refine ⟨fun hno => ?_, fun q h1 h2 hq => ?_⟩
    · rw [if_neg (by omega)]
      exact IH.1 (by omega)
    · by_cases hjq : j = q
      · subst hjq
        rw [if_pos (by omega)]
        exact ⟨_, rfl, _, hd2⟩
      · rw [if_neg (by omega)]
        exact IH.2 q (by omega) h2 hq

/-- The whole: under the IDs 1 .. k each element's data, under any other nothing. -/
theorem find_enc (o : Bool) (id : Int) (k : Nat) (pad : Nat → Nat) (D : Nat → List Int) (hfit : Fits o k D) :
    (¬ (1 ≤ id ∧ id ≤ (k : Int)) → findZ o id (enc o pad D k).length (fun i => (enc o pad D k).getD i 0) (enc o pad D k).length 0 = none) ∧
    (∀ q : Nat, q < k → id = (q : Int) + 1 → ∃ s, findZ o id (enc o pad D k).length (fun i => (enc o pad D k).getD i 0) (enc o pad D k).length 0 = some (s, (D q).length) ∧ ∃ r, (enc o pad D k).drop s = D q ++ r) := by
  have he : enc o pad D k = sfx o pad D k 0 := by
    have := enc_sfx o pad D k 0
    simpa [enc] using this
  have h := findZ_sfx o id (enc o pad D k) k pad D hfit k 0 (enc o pad D k).length 0 (by omega) (by rw [List.drop_zero]; exact he) (by omega) (by omega)
  exact ⟨fun hno => h.1 (by omega), fun q hq hid => h.2 q (by omega) hq hid⟩

theorem enc_len (o : Bool) (pad : Nat → Nat) (D : Nat → List Int) (P M : Nat) (k : Nat) (hp : ∀ j, j < k → pad j ≤ P) (hD : ∀ j, j < k → (D j).length ≤ M) : (enc o pad D k).length ≤ k * (P + 2 + M) := by
  induction k with
  | zero => simp [enc]
  | succ k ih =>
    have h1 := ih (fun j hj => hp j (by omega)) (fun j hj => hD j (by omega))
    have h2 := hp k (by omega)
    have h3 := hD k (by omega)
    have h4 : (hdr o k (D k).length).length ≤ 2 := by cases o <;> simp [hdr]
    simp only [enc, List.length_append, List.length_replicate]
    have : (k + 1) * (P + 2 + M) = k * (P + 2 + M) + (P + 2 + M) := by rw [Nat.succ_mul]
    omega

end Go.Proofs.Qxb6602601a.Plain
