import Derived.Test.Qxb6602601aOwn
namespace Go.Proofs.Qxb6602601a
open Go.RowKit
set_option linter.unusedVariables false

theorem Own.ext {B : Nat} {w0 wr : World} {ev : Value} {l : List Int} (h : Own B w0 wr ev l) (hl : l.length ≤ 1048576) (hb : ∀ x ∈ l, 0 ≤ x ∧ x ≤ 255) :
    ∃ a g c, ev = .slice a l.length c ∧ Ext wr a g 0 l.length c (fun i => l.getD i 0) := by
  have hbyte : ∀ i, 0 ≤ l.getD i 0 ∧ l.getD i 0 ≤ 255 := by
    intro i
    rw [List.getD_eq_getElem?_getD]
    by_cases hi : i < l.length
    · rw [List.getElem?_eq_getElem hi]
      exact hb _ (List.getElem_mem hi)
    · rw [List.getElem?_eq_none (by omega)]
      exact ⟨by decide, by decide⟩
  obtain ⟨hlen, hr⟩ := h.row
  rcases hr with ⟨rfl, h0⟩ | ⟨g, cap, cur, rfl, hg, hh, hle, hcm, hcs, htk⟩
  · exact ⟨none, 0, 0, by rw [h0], ⟨hl, by omega, Nat.zero_le _, .inl h0, fun i hi => absurd hi (by omega), hbyte⟩⟩
  · refine ⟨_, g, cap, rfl, ⟨hl, hle, hcm, .inr rfl, fun i hi => ?_, hbyte⟩⟩
    rw [Nat.mul_one] at htk
    have hi' : i < cur.size := by omega
    have e : cur[i]? = some (Value.int .u8 (l.getD i 0)) := by
      have h1 : (cur.toList.take l.length)[i]? = (l.map (Value.int .u8))[i]? := by rw [htk]
      rw [List.getElem?_take_of_lt hi, List.getElem?_map, List.getElem?_eq_getElem hi] at h1
      rw [← Array.getElem?_toList, h1, List.getD_eq_getElem?_getD, List.getElem?_eq_getElem hi]
      rfl
    simp [World.cell?, hh, e]

theorem enc_byte (o : Bool) (pad : Nat → Nat) (D : Nat → List Int) (k : Nat) (hfit : Plain.Fits o k D) (hD : ∀ j, j < k → ∀ x ∈ D j, 0 ≤ x ∧ x ≤ 255) : ∀ j, j ≤ k → ∀ x ∈ Plain.enc o pad D j, 0 ≤ x ∧ x ≤ 255 := by
  intro j
  induction j with
  | zero => intro _ x hx; simp [Plain.enc] at hx
  | succ j ih =>
    intro hj x hx
    simp only [Plain.enc, List.mem_append, List.mem_replicate] at hx
    rcases hx with hx | hx | hx | hx
    · exact ih (by omega) x hx
    · obtain ⟨_, rfl⟩ := hx; exact ⟨by decide, by decide⟩
    · cases o with
      | true =>
        simp only [Plain.Fits, if_true] at hfit
        have := hfit.2 j (by omega)
        simp [Plain.hdr] at hx
        subst hx
        omega
      | false =>
        simp only [Plain.Fits] at hfit
        rw [if_neg (by simp)] at hfit
        have := hfit.2 j (by omega)
        simp [Plain.hdr] at hx
        rcases hx with hx | hx <;> subst hx <;> omega
    · exact hD j (by omega) x hx

/-- What the extension that was built answers. -/
structure Built (wr : World) (ev : Value) (p : Int) (n2 : Nat) (L : Nat → Nat) (Z : Nat → Nat → Int) : Prop where
  hit : ∀ q k, q < n2 → Calls Try.prog 8 #[.int .u16 p, ev, .int .i64 ((q : Int) + 1)] (wr.drewN k) fun e w' => ∃ a' c', e = .returned (.tuple #[.slice a' (L q) c', .bool true]) ∧ View wr a' (L q) (Z q) ∧ ∃ m, w' = wr.drewN m
  miss : ∀ (id : Int) k, ¬ (1 ≤ id ∧ id ≤ (n2 : Int)) → Calls Try.prog 10 #[.int .u16 p, ev, .int .i64 id] (wr.drewN k) fun e w' => e = .returned (.bool true) ∧ ∃ m, w' = wr.drewN m

theorem clone_none (w : World) : Calls Try.prog 7 #[.slice none 0 0] w fun e w' => e = .returned (.slice none 0 0) ∧ Below w.heap.size w w' :=
  (clone_nil 0 0 w).mono fun e w' ⟨he, hw⟩ => ⟨he, hw ▸ Below.refl _ _⟩

theorem drewN_drewN (w : World) (a b : Nat) : (w.drewN a).drewN b = w.drewN (a + b) := by
  simp [World.drewN, Nat.add_assoc]

theorem built {one : Bool} {p : Int} (hp : Prof one p) {B : Nat} {w0 wr : World} {ev : Value} {n2 n3 : Nat} {P : Nat → Int} {L : Nat → Nat} {Z : Nat → Nat → Int} (h : Own B w0 wr ev (Plain.enc one (Pd n3 P) (Dt L Z) n2))
    (hfit : Plain.Fits one n2 (Dt L Z)) (hl : (Plain.enc one (Pd n3 P) (Dt L Z) n2).length ≤ 1048576) (hZ : ∀ r i, 0 ≤ Z r i ∧ Z r i ≤ 255) : Built wr ev p n2 L Z := by
  obtain ⟨a, g, c, rfl, hx⟩ := h.ext hl (enc_byte one (Pd n3 P) (Dt L Z) n2 hfit (fun j _ x hx => by
    obtain ⟨i, _, rfl⟩ := List.mem_map.1 hx
    exact hZ j i) n2 (Nat.le_refl _))
  refine ⟨fun q k hq => ?_, fun id k hno => ?_⟩
  · obtain ⟨s, hs, r, hr⟩ := (Plain.find_enc one ((q : Int) + 1) n2 (Pd n3 P) (Dt L Z) hfit).2 q hq rfl
    refine (find_any one p hp a g 0 _ c ((q : Int) + 1) _ (wr.drewN k) (hx.drewN k)).mono fun e w' ⟨he, m, hm⟩ => ?_
    rw [hs] at he
    rcases he with ⟨he, _⟩ | ⟨s', m', a', c', he, hee, ha⟩
    · cases he
    · cases he
      rw [len_dt] at ha
      refine ⟨a', c', by rw [hee, len_dt], ?_, k + m, by rw [hm, drewN_drewN]⟩
      rcases ha with h0 | rfl
      · exact .inl h0
      · refine .inr ⟨g, 0 + s, rfl, fun t ht => ?_⟩
        have hlen := congrArg List.length hr
        simp only [List.length_drop, List.length_append, len_dt] at hlen
        have hst : s + t < (Plain.enc one (Pd n3 P) (Dt L Z) n2).length := by omega
        have hc := hx.cell (s + t) hst
        rw [show 0 + s + t = 0 + (s + t) by omega, hc]
        have e1 : ((Plain.enc one (Pd n3 P) (Dt L Z) n2).drop s)[t]? = some (Z q t) := by
          rw [hr, List.getElem?_append_left (by rw [len_dt]; exact ht)]
          simp [Dt, ht]
        rw [List.getElem?_drop] at e1
        show some (Value.int .u8 ((Plain.enc one (Pd n3 P) (Dt L Z) n2).getD (s + t) 0)) = _
        rw [List.getD_eq_getElem?_getD, e1]
        rfl
  · have hnone := (Plain.find_enc one id n2 (Pd n3 P) (Dt L Z) hfit).1 hno
    exact (absent_yes one p hp a g 0 _ c id _ (wr.drewN k) (hx.drewN k) hnone).mono fun e w' ⟨he, m, hm⟩ => ⟨he, k + m, by rw [hm, drewN_drewN]⟩

end Go.Proofs.Qxb6602601a
