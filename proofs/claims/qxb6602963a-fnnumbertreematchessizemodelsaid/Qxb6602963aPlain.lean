namespace Go.Proofs.Qxb6602963a.Plain
set_option linter.unusedVariables false

/-! THE TREE: m numbers, the parent of i (1 ≤ i < m) is d i < i. -/

/-- The least child of v among the numbers from m - t on; -1: none. -/
def nc (d : Nat → Nat) (m v : Nat) : Nat → Int
  | 0 => -1
  | t + 1 => if d (m - 1 - t) = v then ((m - 1 - t : Nat) : Int) else nc d m v t

theorem nc_spec (d : Nat → Nat) (m v t : Nat) (ht : t ≤ m) : (nc d m v t = -1 ∧ ∀ c, m ≤ c + t → c < m → d c ≠ v) ∨ ∃ k : Nat, nc d m v t = (k : Int) ∧ m ≤ k + t ∧ k < m ∧ d k = v ∧ ∀ c, m ≤ c + t → c < m → d c = v → k ≤ c := by
  induction t with
  | zero => exact .inl ⟨rfl, fun c h1 h2 => by omega⟩
  | succ t ih =>
    have ih := ih (by omega)
    show (((if d (m - 1 - t) = v then ((m - 1 - t : Nat) : Int) else nc d m v t) = -1) ∧ _) ∨ ∃ k : Nat, (if d (m - 1 - t) = v then ((m - 1 - t : Nat) : Int) else nc d m v t) = (k : Int) ∧ _
    by_cases h : d (m - 1 - t) = v
    · refine .inr ⟨m - 1 - t, by rw [if_pos h], by omega, by omega, h, fun c h1 h2 h3 => by omega⟩
    · rw [if_neg h]
      have hstep : ∀ c, m ≤ c + (t + 1) → c < m → d c = v → m ≤ c + t := by
        intro c h1 h2 h3
        rcases Nat.lt_or_ge (c + t) m with h4 | h4
        · have : c = m - 1 - t := by omega
          subst this; exact absurd h3 h
        · exact h4
      rcases ih with ⟨h1, h2⟩ | ⟨k, h1, h2, h3, h4, h5⟩
      · exact .inl ⟨h1, fun c hc1 hc2 hc3 => h2 c (hstep c hc1 hc2 hc3) hc2 hc3⟩
      · exact .inr ⟨k, h1, by omega, h3, h4, fun c hc1 hc2 hc3 => h5 c (hstep c hc1 hc2 hc3) hc2 hc3⟩

theorem nc_step (d : Nat → Nat) {m j : Nat} (v : Nat) (hj : j + 1 < m) : nc d m v (m - 1 - j) = if d (j + 1) = v then ((j + 1 : Nat) : Int) else nc d m v (m - 1 - (j + 1)) := by
  obtain ⟨t, ht⟩ : ∃ t, t = m - 1 - (j + 1) := ⟨_, rfl⟩
  rw [show m - 1 - j = t + 1 by omega, ← ht]
  show (if d (m - 1 - t) = v then ((m - 1 - t : Nat) : Int) else nc d m v t) = _
  rw [show m - 1 - t = j + 1 by omega]

/-- The size model's table after t numbers, from the last one down. -/
def sz (d : Nat → Nat) (m : Nat) : Nat → Nat → Int
  | 0 => fun _ => 1
  | t + 1 => fun v => if v = d (m - 1 - t) then sz d m t v + sz d m t (m - 1 - t) else sz d m t v

/-- The size of v's subtree. -/
def S (d : Nat → Nat) (m v : Nat) : Int := sz d m (m - 1) v

/-- The sizes of v's children from m - t on. -/
def CS (d : Nat → Nat) (m v : Nat) : Nat → Int
  | 0 => 0
  | t + 1 => CS d m v t + (if d (m - 1 - t) = v then S d m (m - 1 - t) else 0)

/-- The offsets' two tables after the numbers 1 .. t. -/
def tab (d : Nat → Nat) (m : Nat) : Nat → (Nat → Int) × (Nat → Int)
  | 0 => (fun _ => 0, fun q => if q = 0 then 1 else 0)
  | t + 1 => (fun j => if j = t + 1 then (tab d m t).2 (d (t + 1)) else (tab d m t).1 j,
      fun j => if j = t + 1 then (tab d m t).2 (d (t + 1)) + 1 else if j = d (t + 1) then (tab d m t).2 (d (t + 1)) + S d m (t + 1) else (tab d m t).2 j)

/-- The preorder number of v. -/
def AT (d : Nat → Nat) (m v : Nat) : Int := (tab d m (m - 1)).1 v


/-- Each parent lies ahead of its child. -/
def Tree (d : Nat → Nat) (m : Nat) : Prop := ∀ i, 1 ≤ i → i < m → d i < i

section
variable {d : Nat → Nat} {m : Nat}

theorem sz_pos (t : Nat) : ∀ v, 1 ≤ sz d m t v := by
  induction t with
  | zero => intro v; exact Int.le_refl 1
  | succ t ih =>
    intro v
    have h1 := ih v
    have h2 := ih (m - 1 - t)
    show 1 ≤ if v = d (m - 1 - t) then sz d m t v + sz d m t (m - 1 - t) else sz d m t v
    split <;> omega

theorem S_pos (v : Nat) : 1 ≤ S d m v := sz_pos _ _

theorem sz_keep (hd : Tree d m) (t v : Nat) (h : m - 1 ≤ v + t) (k : Nat) (hk : t + k ≤ m - 1) : sz d m (t + k) v = sz d m t v := by
  induction k with
  | zero => rfl
  | succ k ih =>
    have ih := ih (by omega)
    show (if v = d (m - 1 - (t + k)) then sz d m (t + k) v + sz d m (t + k) (m - 1 - (t + k)) else sz d m (t + k) v) = _
    have := hd (m - 1 - (t + k)) (by omega) (by omega)
    rw [if_neg (by omega), ih]

theorem sz_final (hd : Tree d m) (t : Nat) (ht : t ≤ m - 1) : sz d m t (m - 1 - t) = S d m (m - 1 - t) := by
  have h := sz_keep hd t (m - 1 - t) (by omega) (m - 1 - t) (by omega)
  rw [show t + (m - 1 - t) = m - 1 by omega] at h
  exact h.symm

theorem sz_cs (hd : Tree d m) (t : Nat) (ht : t ≤ m - 1) : ∀ v, sz d m t v = 1 + CS d m v t := by
  induction t with
  | zero => intro v; rfl
  | succ t ih =>
    intro v
    have ih := ih (by omega) v
    show (if v = d (m - 1 - t) then sz d m t v + sz d m t (m - 1 - t) else sz d m t v) = 1 + (CS d m v t + (if d (m - 1 - t) = v then S d m (m - 1 - t) else 0))
    rw [sz_final hd t (by omega)]
    by_cases h : v = d (m - 1 - t)
    · rw [if_pos h, if_pos h.symm, ih]; omega
    · rw [if_neg h, if_neg (fun e => h e.symm), ih]; omega

theorem S_cs (hd : Tree d m) (v : Nat) : S d m v = 1 + CS d m v (m - 1) := sz_cs hd (m - 1) (Nat.le_refl _) v

theorem CS_mono (v t k : Nat) : CS d m v t ≤ CS d m v (t + k) := by
  induction k with
  | zero => exact Int.le_refl _
  | succ k ih =>
    have hS := S_pos (d := d) (m := m) (m - 1 - (t + k))
    show _ ≤ CS d m v (t + k) + (if d (m - 1 - (t + k)) = v then S d m (m - 1 - (t + k)) else 0)
    split <;> omega

theorem CS_nonneg (v t : Nat) : 0 ≤ CS d m v t := by
  have h := CS_mono (d := d) (m := m) v 0 t
  rw [Nat.zero_add] at h
  exact h

/-- Where no child lies between, the sums are one. -/
theorem CS_skip (v t k : Nat) (hk : t + k ≤ m) (h : ∀ c, c < m → m ≤ c + (t + k) → c + t < m → d c ≠ v) : CS d m v (t + k) = CS d m v t := by
  induction k with
  | zero => rfl
  | succ k ih =>
    have ih := ih (by omega) (fun c h1 h2 h3 => h c h1 (by omega) h3)
    show CS d m v (t + k) + (if d (m - 1 - (t + k)) = v then S d m (m - 1 - (t + k)) else 0) = _
    rw [if_neg (h (m - 1 - (t + k)) (by omega) (by omega) (by omega)), ih]
    omega

theorem CS_step (v i : Nat) (h0 : 1 ≤ i) (hi : i < m) : CS d m v (m - i) = CS d m v (m - 1 - i) + (if d i = v then S d m i else 0) := by
  obtain ⟨t, ht⟩ : ∃ t, t = m - 1 - i := ⟨_, rfl⟩
  rw [show m - i = t + 1 by omega, ← ht]
  show CS d m v t + (if d (m - 1 - t) = v then S d m (m - 1 - t) else 0) = _
  rw [show m - 1 - t = i by omega]

theorem tab_keep (t j : Nat) (hj : j ≤ t) (k : Nat) : (tab d m (t + k)).1 j = (tab d m t).1 j := by
  induction k with
  | zero => rfl
  | succ k ih =>
    show (if j = t + k + 1 then (tab d m (t + k)).2 (d (t + k + 1)) else (tab d m (t + k)).1 j) = _
    rw [if_neg (by omega), ih]

theorem tab_at {t j : Nat} (hj : j ≤ t) (ht : t ≤ m - 1) : (tab d m t).1 j = AT d m j := by
  have h := tab_keep (d := d) (m := m) t j hj (m - 1 - t)
  rw [show t + (m - 1 - t) = m - 1 by omega] at h
  exact h.symm

theorem AT_next {i : Nat} (h0 : 1 ≤ i) (hi : i < m) : AT d m i = (tab d m (i - 1)).2 (d i) := by
  have h := tab_at (d := d) (m := m) (t := i) (j := i) (Nat.le_refl _) (by omega)
  obtain ⟨t, rfl⟩ : ∃ t, i = t + 1 := ⟨i - 1, by omega⟩
  rw [← h]
  show (if t + 1 = t + 1 then (tab d m t).2 (d (t + 1)) else _) = _
  rw [if_pos rfl]
  rfl

theorem AT_zero : AT d m 0 = 0 := by
  have h := tab_keep (d := d) (m := m) 0 0 (Nat.le_refl _) (m - 1)
  rw [Nat.zero_add] at h
  exact h

theorem tab_next (hd : Tree d m) (t : Nat) (ht : t < m) : ∀ q, q ≤ t → (tab d m t).2 q = AT d m q + S d m q - CS d m q (m - 1 - t) := by
  induction t with
  | zero =>
    intro q hq
    obtain rfl : q = 0 := by omega
    rw [AT_zero, S_cs hd 0]
    show (if (0 : Nat) = 0 then (1 : Int) else 0) = _
    rw [if_pos rfl, Nat.sub_zero]
    omega
  | succ t ih =>
    intro q hq
    have ih := ih (by omega)
    have hdt := hd (t + 1) (by omega) ht
    have hpar := ih (d (t + 1)) (by omega)
    have hat := AT_next (d := d) (m := m) (i := t + 1) (by omega) ht
    rw [show t + 1 - 1 = t by omega] at hat
    show (if q = t + 1 then (tab d m t).2 (d (t + 1)) + 1 else if q = d (t + 1) then (tab d m t).2 (d (t + 1)) + S d m (t + 1) else (tab d m t).2 q) = _
    have hcs := CS_step (d := d) (m := m) q (t + 1) (by omega) ht
    rw [show m - (t + 1) = m - 1 - t by omega] at hcs
    by_cases h1 : q = t + 1
    · subst h1
      rw [if_pos rfl, ← hat, S_cs hd (t + 1)]
      have hsk := CS_skip (d := d) (m := m) (t + 1) (m - 1 - (t + 1)) (t + 1) (by omega) (fun c h1 h2 h3 e => by have := hd c (by omega) h1; omega)
      rw [show m - 1 - (t + 1) + (t + 1) = m - 1 by omega] at hsk
      omega
    · rw [if_neg h1]
      by_cases h2 : q = d (t + 1)
      · rw [if_pos h2]
        rw [if_pos h2.symm] at hcs
        subst h2
        omega
      · rw [if_neg h2]
        rw [if_neg (fun e => h2 e.symm)] at hcs
        rw [ih q (by omega)]
        omega

theorem AT_rec (hd : Tree d m) {i : Nat} (h0 : 1 ≤ i) (hi : i < m) : AT d m i = AT d m (d i) + S d m (d i) - CS d m (d i) (m - i) := by
  have hdi := hd i h0 hi
  rw [AT_next h0 hi, tab_next hd (i - 1) (by omega) (d i) (by omega), show m - 1 - (i - 1) = m - i by omega]

/-- The first child. -/
theorem first_some (hd : Tree d m) {v k : Nat} (h : nc d m v (m - 1) = (k : Int)) : 1 ≤ k ∧ k < m ∧ d k = v ∧ (∀ c, 1 ≤ c → c < m → d c = v → k ≤ c) ∧ AT d m k = AT d m v + 1 := by
  rcases nc_spec d m v (m - 1) (by omega) with ⟨h1, _⟩ | ⟨k', h1, h2, h3, h4, h5⟩
  · omega
  · obtain rfl : k = k' := by omega
    have hk : 1 ≤ k := by omega
    refine ⟨hk, h3, h4, fun c hc1 hc2 hc3 => h5 c (by omega) hc2 hc3, ?_⟩
    rw [AT_rec hd hk h3, h4, S_cs hd v]
    have hsk := CS_skip (d := d) (m := m) v (m - k) (k - 1) (by omega) (fun c g1 g2 g3 e => by have := h5 c (by omega) g1 e; omega)
    rw [show m - k + (k - 1) = m - 1 by omega] at hsk
    omega

theorem first_none (hd : Tree d m) {v : Nat} (h : nc d m v (m - 1) = -1) : (∀ c, 1 ≤ c → c < m → d c ≠ v) ∧ S d m v = 1 := by
  rcases nc_spec d m v (m - 1) (by omega) with ⟨h1, h2⟩ | ⟨k', h1, _⟩
  · refine ⟨fun c hc1 hc2 => h2 c (by omega) hc2, ?_⟩
    rw [S_cs hd v]
    have hsk := CS_skip (d := d) (m := m) v 0 (m - 1) (by omega) (fun c g1 g2 g3 e => h2 c (by omega) g1 e)
    rw [Nat.zero_add] at hsk
    rw [hsk]
    rfl
  · omega

/-- The next sibling. -/
theorem next_some (hd : Tree d m) {k s : Nat} (h0 : 1 ≤ k) (hk : k < m) (h : nc d m (d k) (m - 1 - k) = (s : Int)) : k < s ∧ s < m ∧ d s = d k ∧ (∀ c, k < c → c < m → d c = d k → s ≤ c) ∧ AT d m s = AT d m k + S d m k := by
  rcases nc_spec d m (d k) (m - 1 - k) (by omega) with ⟨h1, _⟩ | ⟨k', h1, h2, h3, h4, h5⟩
  · omega
  · obtain rfl : s = k' := by omega
    refine ⟨by omega, h3, h4, fun c hc1 hc2 hc3 => h5 c (by omega) hc2 hc3, ?_⟩
    have e1 := AT_rec hd (i := s) (by omega) h3
    have e2 := AT_rec hd h0 hk
    rw [h4] at e1
    have hcs := CS_step (d := d) (m := m) (d k) k h0 hk
    rw [if_pos rfl] at hcs
    have hsk := CS_skip (d := d) (m := m) (d k) (m - s) (s - 1 - k) (by omega) (fun c g1 g2 g3 e => by have := h5 c (by omega) g1 e; omega)
    rw [show m - s + (s - 1 - k) = m - 1 - k by omega] at hsk
    omega

theorem next_none (hd : Tree d m) {k : Nat} (h0 : 1 ≤ k) (hk : k < m) (h : nc d m (d k) (m - 1 - k) = -1) : (∀ c, k < c → c < m → d c ≠ d k) ∧ AT d m k + S d m k = AT d m (d k) + S d m (d k) := by
  rcases nc_spec d m (d k) (m - 1 - k) (by omega) with ⟨h1, h2⟩ | ⟨k', h1, _⟩
  · refine ⟨fun c hc1 hc2 => h2 c (by omega) hc2, ?_⟩
    have e2 := AT_rec hd h0 hk
    have hcs := CS_step (d := d) (m := m) (d k) k h0 hk
    rw [if_pos rfl] at hcs
    have hsk := CS_skip (d := d) (m := m) (d k) 0 (m - 1 - k) (by omega) (fun c g1 g2 g3 e => h2 c (by omega) g1 e)
    rw [Nat.zero_add] at hsk
    have : CS d m (d k) 0 = 0 := rfl
    omega
  · omega

/-- Sums. -/
def sm (f : Nat → Int) : Nat → Int
  | 0 => 0
  | n + 1 => sm f n + f n

theorem sm_one (n : Nat) : sm (fun _ => 1) n = (n : Int) := by
  induction n with
  | zero => rfl
  | succ n ih => show sm _ n + 1 = _; rw [ih]; omega

theorem sm_upd (f : Nat → Int) (p : Nat) (x : Int) (n : Nat) : sm (fun v => if v = p then f v + x else f v) n = sm f n + (if p < n then x else 0) := by
  induction n with
  | zero => rfl
  | succ n ih =>
    show sm _ n + (if n = p then f n + x else f n) = sm f n + f n + _
    rw [ih]
    by_cases h : n = p
    · subst h; rw [if_pos rfl, if_neg (by omega), if_pos (by omega)]; omega
    · rw [if_neg h]
      by_cases h2 : p < n
      · rw [if_pos h2, if_pos (by omega)]; omega
      · rw [if_neg h2, if_neg (by omega)]; omega

theorem sz_sum (hd : Tree d m) (t : Nat) (ht : t < m) : sm (sz d m t) (m - t) = (m : Int) := by
  induction t with
  | zero => exact sm_one m
  | succ t ih =>
    have ih := ih (by omega)
    have hdi := hd (m - 1 - t) (by omega) (by omega)
    have e : sz d m (t + 1) = fun v => if v = d (m - 1 - t) then sz d m t v + sz d m t (m - 1 - t) else sz d m t v := rfl
    rw [e, sm_upd, if_pos (by omega), show m - (t + 1) = m - 1 - t by omega]
    rw [show m - t = (m - 1 - t) + 1 by omega] at ih
    exact ih

theorem S_root (hd : Tree d m) (hm : 1 ≤ m) : S d m 0 = (m : Int) := by
  have h := sz_sum hd (m - 1) (by omega)
  rw [show m - (m - 1) = 0 + 1 by omega] at h
  have e : sm (sz d m (m - 1)) (0 + 1) = 0 + sz d m (m - 1) 0 := rfl
  rw [e] at h
  show sz d m (m - 1) 0 = _
  omega

theorem AT_bound (hd : Tree d m) (hm : 1 ≤ m) : ∀ n k, k ≤ n → k < m → 0 ≤ AT d m k ∧ AT d m k + S d m k ≤ (m : Int) := by
  intro n
  induction n with
  | zero =>
    intro k hk _
    obtain rfl : k = 0 := by omega
    rw [AT_zero, S_root hd hm]
    omega
  | succ n ih =>
    intro k hk hkm
    by_cases h0 : k = 0
    · subst h0; exact ih 0 (by omega) hkm
    · have hdk := hd k (by omega) hkm
      have hp := ih (d k) (by omega) (by omega)
      have e := AT_rec hd (i := k) (by omega) hkm
      have hcs := CS_step (d := d) (m := m) (d k) k (by omega) hkm
      rw [if_pos rfl] at hcs
      have hn := CS_nonneg (d := d) (m := m) (d k) (m - 1 - k)
      have hmo := CS_mono (d := d) (m := m) (d k) (m - k) (k - 1)
      rw [show m - k + (k - 1) = m - 1 by omega] at hmo
      have hs := S_cs hd (d k)
      omega

theorem AT_ok (hd : Tree d m) {k : Nat} (hk : k < m) : 0 ≤ AT d m k ∧ AT d m k + S d m k ≤ (m : Int) := AT_bound hd (by omega) k k (Nat.le_refl _) hk

theorem sz_le (hd : Tree d m) {t : Nat} (ht : t ≤ m - 1) {v : Nat} (hv : v < m) : sz d m t v ≤ (m : Int) := by
  have h1 := sz_cs hd t ht v
  have h2 := S_cs hd v
  have h3 := CS_mono (d := d) (m := m) v t (m - 1 - t)
  rw [show t + (m - 1 - t) = m - 1 by omega] at h3
  have h4 := AT_ok hd hv
  omega

theorem sz_step {j : Nat} (hj : j + 1 < m) (v : Nat) : sz d m (m - 1 - j) v = if v = d (j + 1) then sz d m (m - 1 - (j + 1)) v + sz d m (m - 1 - (j + 1)) (j + 1) else sz d m (m - 1 - (j + 1)) v := by
  obtain ⟨t, ht⟩ : ∃ t, t = m - 1 - (j + 1) := ⟨_, rfl⟩
  rw [show m - 1 - j = t + 1 by omega, ← ht]
  show (if v = d (m - 1 - t) then sz d m t v + sz d m t (m - 1 - t) else sz d m t v) = _
  rw [show m - 1 - t = j + 1 by omega]

theorem sz_sum_le (hd : Tree d m) {j : Nat} (hj : j + 1 < m) : sz d m (m - 1 - (j + 1)) (d (j + 1)) + sz d m (m - 1 - (j + 1)) (j + 1) ≤ (m : Int) := by
  have h1 := sz_step (d := d) hj (d (j + 1))
  rw [if_pos rfl] at h1
  have h2 := hd (j + 1) (by omega) hj
  have h3 := sz_le hd (t := m - 1 - j) (by omega) (v := d (j + 1)) (by omega)
  omega

theorem next_ok (hd : Tree d m) {t q : Nat} (ht : t < m) (hq : q ≤ t) : 1 ≤ (tab d m t).2 q ∧ (tab d m t).2 q ≤ (m : Int) := by
  have h1 := tab_next hd t ht q hq
  have h2 := AT_ok hd (k := q) (by omega)
  have h3 := CS_nonneg (d := d) (m := m) q (m - 1 - t)
  have h4 := CS_mono (d := d) (m := m) q (m - 1 - t) t
  rw [show m - 1 - t + t = m - 1 by omega] at h4
  have h5 := S_cs hd q
  omega

theorem next_sum_le (hd : Tree d m) {t : Nat} (ht : t + 1 < m) : (tab d m t).2 (d (t + 1)) + S d m (t + 1) ≤ (m : Int) := by
  have h2 := hd (t + 1) (by omega) ht
  have h3 := next_ok hd (t := t + 1) (q := d (t + 1)) ht (by omega)
  have e : (tab d m (t + 1)).2 (d (t + 1)) = if d (t + 1) = t + 1 then (tab d m t).2 (d (t + 1)) + 1 else if d (t + 1) = d (t + 1) then (tab d m t).2 (d (t + 1)) + S d m (t + 1) else (tab d m t).2 (d (t + 1)) := rfl
  rw [if_neg (by omega), if_pos rfl] at e
  omega

end

end Go.Proofs.Qxb6602963a.Plain
