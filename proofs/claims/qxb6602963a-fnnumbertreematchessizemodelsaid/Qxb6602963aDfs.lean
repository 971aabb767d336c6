import Derived.Test.Qxb6602963aPlain
namespace Go.Proofs.Qxb6602963a.Plain
set_option linter.unusedVariables false

/-- The stack, its top first: each is the child of the one below, whose pointer goes on behind it; the last is the root. -/
def Chain (d : Nat → Nat) (m : Nat) (kf : Nat → Int) : List Nat → Prop
  | [] => True
  | [v] => v = 0
  | w :: v :: r => (1 ≤ w ∧ w < m ∧ d w = v ∧ kf v = nc d m v (m - 1 - w)) ∧ Chain d m kf (v :: r)

theorem chain_lt {d : Nat → Nat} {m : Nat} (hd : Tree d m) {kf : Nat → Int} : ∀ {v : Nat} {r : List Nat}, Chain d m kf (v :: r) → ∀ u ∈ r, u < v
  | v, [], _, u, hu => by cases hu
  | w, v :: r, h, u, hu => by
    obtain ⟨⟨h1, h2, h3, _⟩, hc⟩ := h
    have hlt := hd w h1 h2
    rcases List.mem_cons.1 hu with rfl | hu
    · omega
    · have := chain_lt hd hc u hu
      omega

theorem chain_congr {d : Nat → Nat} {m : Nat} {kf kf' : Nat → Int} : ∀ {st : List Nat}, Chain d m kf st → (∀ u ∈ st.tail, kf' u = kf u) → Chain d m kf' st
  | [], _, _ => trivial
  | [v], h, _ => h
  | w :: v :: r, h, e => by
    obtain ⟨⟨h1, h2, h3, h4⟩, hc⟩ := h
    refine ⟨⟨h1, h2, h3, (e v (by simp)).trans h4⟩, chain_congr hc (fun u hu => e u ?_)⟩
    simp at hu ⊢
    exact .inr hu

/-- The walk over the tree, in its midst. -/
structure Dfs (d : Nat → Nat) (m : Nat) (vx : Nat → Nat) (kf : Nat → Int) (cnt : Nat) (st : List Nat) (vis : Nat → Prop) (f3 f4 : Nat → Int) : Prop where
  root : vis 0
  chain : Chain d m kf st
  inn : ∀ v ∈ st, v < m ∧ vis v
  ptr : ∀ v, v < m → kf v = nc d m v (m - 1) ∨ ∃ w, 1 ≤ w ∧ w < m ∧ d w = v ∧ kf v = nc d m v (m - 1 - w)
  seen : ∀ c, 1 ≤ c → c < m → (vis c ↔ vis (d c) ∧ (kf (d c) = -1 ∨ (c : Int) < kf (d c)))
  new : ∀ j, j < m → ¬ vis j → kf j = nc d m j (m - 1)
  done : ∀ j, j < m → vis j → j ∉ st → kf j = -1 ∧ f4 (vx j) = AT d m j + S d m j
  pre : ∀ j, j < m → vis j → f3 (vx j) = AT d m j
  out : ∀ u, (∀ j, j < m → vx j ≠ u) → f3 u = -1 ∧ f4 u = -1
  top : (st = [] ∧ (m : Int) = (cnt : Int) + 1) ∨ ∃ v r, st = v :: r ∧ ((kf v = -1 ∧ AT d m v + S d m v = (cnt : Int) + 1) ∨ ∃ k : Nat, kf v = (k : Int) ∧ AT d m k = (cnt : Int) + 1)

section
variable {d : Nat → Nat} {m : Nat} {vx : Nat → Nat} {kf : Nat → Int} {cnt : Nat} {st : List Nat} {vis : Nat → Prop} {f3 f4 : Nat → Int}

theorem Dfs.child (h : Dfs d m vx kf cnt st vis f3 f4) (hd : Tree d m) {v k : Nat} (hv : v < m) (hk : kf v = (k : Int)) : 1 ≤ k ∧ k < m ∧ d k = v ∧ v < k := by
  rcases h.ptr v hv with e | ⟨w, h1, h2, h3, e⟩
  · obtain ⟨g1, g2, g3, _, _⟩ := first_some hd (e.symm.trans hk)
    have := hd k g1 g2
    omega
  · subst h3
    obtain ⟨g1, g2, g3, _, _⟩ := next_some hd h1 h2 (e.symm.trans hk)
    have := hd k (by omega) g2
    omega

theorem Dfs.ptr_cases (h : Dfs d m vx kf cnt st vis f3 f4) (hd : Tree d m) {v : Nat} (hv : v < m) : kf v = -1 ∨ ∃ k : Nat, kf v = (k : Int) ∧ k < m := by
  rcases h.ptr v hv with e | ⟨w, h1, h2, h3, e⟩
  · rcases nc_spec d m v (m - 1) (by omega) with ⟨e1, _⟩ | ⟨k, e1, _, e2, _⟩
    · exact .inl (e.trans e1)
    · exact .inr ⟨k, e.trans e1, e2⟩
  · rcases nc_spec d m v (m - 1 - w) (by omega) with ⟨e1, _⟩ | ⟨k, e1, _, e2, _⟩
    · exact .inl (e.trans e1)
    · exact .inr ⟨k, e.trans e1, e2⟩

theorem dfs_start (hd : Tree d m) (hm : 1 ≤ m) (hvx : ∀ i j, i < m → j < m → vx i = vx j → i = j) :
    Dfs d m vx (fun v => nc d m v (m - 1)) 0 [0] (fun j => j = 0) (fun u => if u = vx 0 then 0 else -1) (fun _ => -1) := by
  refine ⟨rfl, rfl, fun v hv => ?_, fun v _ => .inl rfl, fun c h1 h2 => ?_, fun j _ _ => rfl, fun j hj hv hn => ?_, fun j hj hv => ?_, fun u hu => ?_, .inr ⟨0, [], rfl, ?_⟩⟩
  · have : v = 0 := by simpa using hv
    exact ⟨by omega, this⟩
  · constructor
    · intro h; omega
    · rintro ⟨h3, h4⟩
      exfalso
      have h3 : d c = 0 := h3
      rcases nc_spec d m 0 (m - 1) (by omega) with ⟨e1, e2⟩ | ⟨k, e1, e2, e3, e4, e5⟩
      · exact e2 c (by omega) h2 h3
      · have := e5 c (by omega) h2 h3
        rw [h3, e1] at h4
        omega
  · have hv : j = 0 := hv
    exact absurd (by simpa using hv) hn
  · have hv : j = 0 := hv
    subst hv
    show (if vx 0 = vx 0 then (0 : Int) else -1) = _
    rw [if_pos rfl, AT_zero]
  · have : u ≠ vx 0 := fun e => hu 0 (by omega) e.symm
    exact ⟨if_neg this, rfl⟩
  · rcases nc_spec d m 0 (m - 1) (by omega) with ⟨e1, _⟩ | ⟨k, e1, _⟩
    · have := (first_none hd e1).2
      exact .inl ⟨e1, by rw [AT_zero, this]; rfl⟩
    · have := (first_some hd e1).2.2.2.2
      exact .inr ⟨k, e1, by rw [this, AT_zero]; rfl⟩

/-- A child is met. -/
theorem dfs_push (hd : Tree d m) (hvx : ∀ i j, i < m → j < m → vx i = vx j → i = j) {v : Nat} {r : List Nat} (h : Dfs d m vx kf cnt (v :: r) vis f3 f4) {k : Nat} (hk : kf v = (k : Int)) :
    cnt + 1 < m ∧ Dfs d m vx (fun u => if u = v then nc d m (d k) (m - 1 - k) else kf u) (cnt + 1) (k :: v :: r) (fun j => j = k ∨ vis j) (fun u => if u = vx k then ((cnt : Int) + 1) else f3 u) f4 := by
  obtain ⟨hvm, hvv⟩ := h.inn v (by simp)
  obtain ⟨hk1, hkm, hdk, hvk⟩ := h.child hd hvm hk
  have hatk : AT d m k = (cnt : Int) + 1 := by
    rcases h.top with ⟨e, _⟩ | ⟨v', r', e, ht⟩
    · cases e
    · cases e
      rcases ht with ⟨e1, _⟩ | ⟨k', e1, e2⟩
      · omega
      · obtain rfl : k = k' := by omega
        exact e2
  have hnk : ¬ vis k := by
    intro hh
    have := ((h.seen k hk1 hkm).1 hh).2
    rw [hdk, hk] at this
    omega
  have hkf : kf k = nc d m k (m - 1) := h.new k hkm hnk
  have hne : k ≠ v := by omega
  have hb := AT_ok hd hkm
  have hS := S_pos (d := d) (m := m) k
  have hkst : k ∉ v :: r := fun hin => hnk (h.inn k hin).2
  refine ⟨by omega, ⟨.inr h.root, ⟨⟨hk1, hkm, hdk, ?_⟩, ?_⟩, fun u hu => ?_, fun u hu => ?_, fun c h1 h2 => ?_, fun j hj hv => ?_, fun j hj hv hn => ?_, fun j hj hv => ?_, fun u hu => ?_, .inr ⟨k, v :: r, rfl, ?_⟩⟩⟩
  · show (if v = v then _ else _) = _
    rw [if_pos rfl, hdk]
  · refine chain_congr h.chain (fun u hu => ?_)
    have := chain_lt hd h.chain u hu
    show (if u = v then _ else _) = _
    rw [if_neg (by omega)]
  · rcases List.mem_cons.1 hu with rfl | hu
    · exact ⟨hkm, .inl rfl⟩
    · exact ⟨(h.inn u hu).1, .inr (h.inn u hu).2⟩
  · show (if u = v then _ else _) = _ ∨ ∃ w, _ ∧ _ ∧ _ ∧ (if u = v then _ else _) = _
    by_cases e : u = v
    · subst e
      exact .inr ⟨k, hk1, hkm, hdk, by rw [if_pos rfl, hdk]⟩
    · rw [if_neg e]
      exact h.ptr u hu
  · show (c = k ∨ vis c) ↔ (d c = k ∨ vis (d c)) ∧ ((if d c = v then _ else _) = _ ∨ _ < (if d c = v then _ else _))
    by_cases e1 : d c = v
    · rw [if_pos e1]
      have hold := h.seen c h1 h2
      rw [e1, hk] at hold
      have hL : (c = k ∨ vis c) ↔ c ≤ k := by
        constructor
        · rintro (rfl | hc)
          · exact Nat.le_refl _
          · have := (hold.1 hc).2; omega
        · intro hc
          rcases Nat.lt_or_ge c k with h3 | h3
          · exact .inr (hold.2 ⟨hvv, .inr (by omega)⟩)
          · exact .inl (by omega)
      rw [hL, e1]
      constructor
      · intro hc
        refine ⟨.inr hvv, ?_⟩
        rcases nc_spec d m (d k) (m - 1 - k) (by omega) with ⟨g1, _⟩ | ⟨s, g1, g2, _⟩
        · exact .inl g1
        · right; rw [g1]; omega
      · rintro ⟨_, hc⟩
        rcases nc_spec d m (d k) (m - 1 - k) (by omega) with ⟨g1, g2⟩ | ⟨s, g1, g2, g3, g4, g5⟩
        · rcases Nat.lt_or_ge k c with h3 | h3
          · exact absurd (e1.trans hdk.symm) (g2 c (by omega) h2)
          · exact h3
        · rw [g1] at hc
          rcases Nat.lt_or_ge k c with h3 | h3
          · have := g5 c (by omega) h2 (e1.trans hdk.symm)
            omega
          · exact h3
    · rw [if_neg e1]
      by_cases e2 : d c = k
      · have hck : c ≠ k := by have := hd c h1 h2; omega
        have hold := h.seen c h1 h2
        rw [e2] at hold ⊢
        constructor
        · rintro (hc | hc)
          · exact absurd hc hck
          · exact absurd (hold.1 hc).1 hnk
        · rintro ⟨_, hc⟩
          exfalso
          rw [hkf] at hc
          rcases nc_spec d m k (m - 1) (by omega) with ⟨g1, g2⟩ | ⟨s, g1, g2, g3, g4, g5⟩
          · exact g2 c (by omega) h2 e2
          · rw [g1] at hc
            have := g5 c (by omega) h2 e2
            omega
      · have hck : c ≠ k := fun e => e1 (by rw [e]; exact hdk)
        have hold := h.seen c h1 h2
        constructor
        · rintro (hc | hc)
          · exact absurd hc hck
          · exact ⟨.inr (hold.1 hc).1, (hold.1 hc).2⟩
        · rintro ⟨hc | hc, hh⟩
          · exact absurd hc e2
          · exact .inr (hold.2 ⟨hc, hh⟩)
  · have hj2 : ¬ vis j := fun e => hv (.inr e)
    have hjv : j ≠ v := fun e => hj2 (e ▸ hvv)
    show (if j = v then _ else _) = _
    rw [if_neg hjv]
    exact h.new j hj hj2
  · have hjk : j ≠ k := fun e => hn (by simp [e])
    have hjst : j ∉ v :: r := fun e => hn (List.mem_cons_of_mem _ e)
    have hjv : j ≠ v := fun e => hjst (by simp [e])
    rcases hv with e | hv
    · exact absurd e hjk
    · show (if j = v then _ else _) = _ ∧ _
      rw [if_neg hjv]
      exact h.done j hj hv hjst
  · show (if vx j = vx k then _ else _) = _
    by_cases e : j = k
    · subst e; rw [if_pos rfl, hatk]
    · rw [if_neg (fun e2 => e (hvx j k hj hkm e2))]
      rcases hv with e2 | hv
      · exact absurd e2 e
      · exact h.pre j hj hv
  · have : u ≠ vx k := fun e => hu k hkm e.symm
    show (if u = vx k then _ else _) = _ ∧ _
    rw [if_neg this]
    exact h.out u hu
  · show ((if k = v then _ else _) = _ ∧ _) ∨ ∃ k', (if k = v then _ else _) = _ ∧ _
    rw [if_neg hne, hkf]
    rcases nc_spec d m k (m - 1) (by omega) with ⟨e1, _⟩ | ⟨s, e1, _⟩
    · have := (first_none hd e1).2
      exact .inl ⟨e1, by rw [hatk, this]; omega⟩
    · have := (first_some hd e1).2.2.2.2
      exact .inr ⟨s, e1, by rw [this, hatk]; omega⟩

/-- The top has no child left. -/
theorem dfs_pop (hd : Tree d m) (hvx : ∀ i j, i < m → j < m → vx i = vx j → i = j) {v : Nat} {r : List Nat} (h : Dfs d m vx kf cnt (v :: r) vis f3 f4) (hk : kf v = -1) :
    Dfs d m vx kf cnt r vis f3 (fun u => if u = vx v then ((cnt : Int) + 1) else f4 u) := by
  obtain ⟨hvm, hvv⟩ := h.inn v (by simp)
  have hat : AT d m v + S d m v = (cnt : Int) + 1 := by
    rcases h.top with ⟨e, _⟩ | ⟨v', r', e, ht⟩
    · cases e
    · cases e
      rcases ht with ⟨_, e2⟩ | ⟨k', e1, _⟩
      · exact e2
      · omega
  refine ⟨h.root, ?_, fun u hu => h.inn u (List.mem_cons_of_mem _ hu), h.ptr, h.seen, h.new, fun j hj hv hn => ?_, h.pre, fun u hu => ?_, ?_⟩
  · cases r with
    | nil => exact trivial
    | cons u r => exact h.chain.2
  · show _ ∧ (if vx j = vx v then _ else _) = _
    by_cases e : j = v
    · subst e
      exact ⟨hk, by rw [if_pos rfl, hat]⟩
    · rw [if_neg (fun e2 => e (hvx j v hj hvm e2))]
      exact h.done j hj hv (fun hin => by rcases List.mem_cons.1 hin with e2 | e2; exact e e2; exact hn e2)
  · have : u ≠ vx v := fun e => hu v hvm e.symm
    show _ ∧ (if u = vx v then _ else _) = _
    rw [if_neg this]
    exact h.out u hu
  · cases r with
    | nil =>
      have hv0 : v = 0 := h.chain
      subst hv0
      rw [AT_zero, S_root hd (by omega)] at hat
      exact .inl ⟨rfl, by omega⟩
    | cons u r =>
      obtain ⟨⟨h1, h2, h3, h4⟩, _⟩ := h.chain
      refine .inr ⟨u, r, rfl, ?_⟩
      subst h3
      rcases nc_spec d m (d v) (m - 1 - v) (by omega) with ⟨e1, _⟩ | ⟨s, e1, _⟩
      · have := (next_none hd h1 h2 e1).2
        exact .inl ⟨h4.trans e1, by omega⟩
      · have := (next_some hd h1 h2 e1).2.2.2.2
        exact .inr ⟨s, h4.trans e1, by omega⟩

/-- The walk has come to its end: every number is met. -/
theorem dfs_end (hd : Tree d m) (h : Dfs d m vx kf cnt [] vis f3 f4) : ∀ n j, j ≤ n → j < m → vis j := by
  intro n
  induction n with
  | zero =>
    intro j hj _
    obtain rfl : j = 0 := by omega
    exact h.root
  | succ n ih =>
    intro j hj hjm
    by_cases h0 : j = 0
    · subst h0; exact h.root
    · have hdj := hd j (by omega) hjm
      have hp := ih (d j) (by omega) (by omega)
      exact (h.seen j (by omega) hjm).2 ⟨hp, .inl (h.done (d j) (by omega) hp (by simp)).1⟩

theorem dfs_result (hd : Tree d m) (h : Dfs d m vx kf cnt [] vis f3 f4) : (∀ j, j < m → f3 (vx j) = AT d m j ∧ f4 (vx j) = AT d m j + S d m j) ∧ ∀ u, (∀ j, j < m → vx j ≠ u) → f3 u = -1 ∧ f4 u = -1 := by
  refine ⟨fun j hj => ?_, h.out⟩
  have hv := dfs_end hd h j j (Nat.le_refl _) hj
  exact ⟨h.pre j hj hv, (h.done j hj hv (by simp)).2⟩

end

end Go.Proofs.Qxb6602963a.Plain
