import Derived.Test.Qxb6602989aAny
namespace Go.Proofs.Qxb6602989a
open Go.RowKit Go.Maps Go.WideMaps
set_option linter.unusedVariables false

theorem zero4 (w : World) : (zeroValue 4).run Try.prog w = .ok (.bool false) w := by kernel_rfl

section
variable {ops : Array Oper} {rest : List Oper} {o : Oper} {a : Act} {Q : Exit → Act → World → Prop} {w : World}

/-- 'v, ok := busy[r]'. -/
theorem wpList_lookup_set (hg : o.guard = none) (m x : Operand) (hop : o.op = Op.lookup 28 m x true) {b n nn : Nat} {S1 S4 : Nat → ByteArray} (hm : a.eval m = .map (some b)) (hown : w.ownsMap Try.prog 9 (plainElem Try.prog 4) b n (Ds S1 S4 nn))
    (r : ByteArray) (hr : r.size ≤ maxLen) (hx : a.eval x = .string r) (hK : wpList Try.prog ops Q rest (a.put o.dst (.tuple #[.bool (anyB S1 S4 r nn), .bool (anyB S1 S4 r nn)])) w) : wpList Try.prog ops Q (o :: rest) a w := by
  refine wpList_lookup_own_ok w hg m x 28 hop 9 4 law Try.underlying28 (plainElem (H := Unit) Try.prog 4) (zero4 w) (.lit (.bool false)) [] (plainElem_bool Try.underlying4 false) b n _ hm hown _ _ hx (keyOf_string_mk Try.underlying9 hr) (fun v ps hv => ?_)
  obtain ⟨c, rfl, hc⟩ := plainElem_bool_inv Try.underlying4 hv
  have hc' : (Ds S1 S4 nn).atKey (.string r.data.toList) (.lit (.bool false)) = .lit (.bool c) := congrArg Prod.fst hc
  rw [ds_has]
  cases hb : anyB S1 S4 r nn with
  | true =>
    rw [ds_at _ _ _ ((ds_has r nn).trans hb)] at hc'
    have : true = c := by simpa using hc'
    subst this
    rw [hb] at hK
    exact hK
  | false =>
    rw [atKey_of_not_has ((ds_has r nn).trans hb)] at hc'
    have : false = c := by simpa using hc'
    subst this
    rw [hb] at hK
    exact hK

/-- 'len(busy)'. -/
theorem wpList_len_set (hg : o.guard = none) (m : Operand) (hop : o.op = Op.call { callee := Callee.builtin Builtin.len, args := #[m], argTypes := #[28] }) {b n nn : Nat} {S1 S4 : Nat → ByteArray} (hm : a.eval m = .map (some b)) (hown : w.ownsMap Try.prog 9 (plainElem Try.prog 4) b n (Ds S1 S4 nn))
    (hK : wpList Try.prog ops Q rest (a.put o.dst (.int .i64 (cD S1 S4 nn : Int))) w) : wpList Try.prog ops Q (o :: rest) a w := by
  refine wpList_len_own w hg m 28 hop 9 4 Try.underlying28 (plainElem (H := Unit) Try.prog 4) b n _ hm hown ?_
  rw [ds_size]
  exact hK
end

set_option maxRecDepth 100000 in
set_option maxHeartbeats 4000000 in
theorem main_full (a0 a1 a2 a3 a4 : Option Addr) (n c0 c1 c2 c3 c4 : Nat) (Id : Nat → Int) (S1 S2 S4 : Nat → ByteArray) (A : Nat → Option Addr) (L C : Nat → Nat) (T : Nat → Nat → ByteArray) (w : World) (hn : n ≤ 4096)
    (v0 : IView w a0 n Id) (h : Cols w a1 a2 a3 a4 n n n n S1 S2 S4 A L C T) :
    Calls Try.prog 3 #[.slice a0 n c0, .slice a1 n c1, .slice a2 n c2, .slice a3 n c3, .slice a4 n c4] w fun e w' => e = .returned (.bool true) ∧ Below w.heap.size w w' := by
  have hm : n ≤ maxLen := by unfold maxLen; omega
  have hbytes := bytes_any a0 a1 a2 a3 a4 n n n n n c0 c1 c2 c3 c4 S1 S2 S4 A L C T w h hm hm hm hm hm
  have hfit := fit_any a0 a1 a2 a3 a4 n n n n n c0 c1 c2 c3 c4 S1 S2 S4 A L C T w h hn hn hn hn hn
  have hq := fun (wx : World) (r : Option Nat) => run_eql_map_nil (P := Try.prog) wx 28 9 4 r Try.underlying28
  have q1 : decide ((4096 : Int) < (n : Int)) = false := decide_eq_false (by omega)
  clear hm
  go_enter Try.func3, Try.ntmps3
  go_wp2_with (first
    | (go_at_call 7; refine hbytes.mono ?_; rintro e w' ⟨⟨r, rfl, hr⟩, rfl⟩; cases r)
    | (go_at_call 8; refine hfit.mono ?_; rintro e w' ⟨⟨r', rfl, hr'⟩, rfl⟩; cases r')
    | (go_at_call 9; have hL := hr trivial; refine (jobs_any a0 a1 a2 a3 a4 n c0 c1 c2 c3 c4 Id S1 S2 S4 A L C T w hn v0 h hL).mono ?_; rintro e w1 ⟨rfl, ⟨f, hrow, hjobs⟩, hb1⟩)
    | (go_at_call 10; refine (busy_any w.heap.size n f S1 S4 w1 hn hrow hjobs h.z4).mono ?_; rintro e w2 ⟨rfl, hown, hb2⟩))
  all_goals first | (go_ret; exact ⟨rfl, Below.refl _ _⟩) | skip
  have hbel : Below w.heap.size w w2 := hb1.trans (hb2.mono hb1.size)
  have t1 : SView w2 a1 n S1 := h.s1.below hbel h.s1.lt
  have t4 : SView w2 a4 n S4 := h.s4.below hbel h.s4.lt
  have hz4 := h.z4
  have hdis := distinct_any a1 a4 n c1 c4 S1 S4 w2 hn t1 t4
  clear hr hr' hbytes hfit hrow hjobs hb1 hb2 h v0 q1
  go_loopg [14] n (fun k i wr => ∃ t : Nat, t + k = n ∧ i = .int .i64 t ∧ w2 = wr)
  case atStart => exact ⟨0, by omega, rfl, rfl⟩
  case round =>
    obtain ⟨t, ht, rfl, rfl⟩ := hrel
    by_cases hlt : t < n
    · have hany := any_any a1 a4 n c1 c4 S1 S4 (S4 t) w2 hn t1 t4
      have hlt' : (t : Int) < (n : Int) := by omega
      rcases t4 with h0 | ⟨b4, o4, rfl, q4⟩
      · exact absurd h0 (by omega)
      have e4 := q4 t hlt
      have hzt := hz4 t
      clear q4 t1 hdis hz4
      cases hb : anyB S1 S4 (S4 t) n with
      | true =>
        go_wp2_with (first
          | (at_lookup; refine wpList_lookup_set rfl _ _ rfl rfl hown (S4 t) hzt rfl ?_)
          | (go_at_call 11; refine hany.mono ?_; rintro e w' ⟨rfl, rfl⟩))
        go_roundg (gk - 1)
        case measure => omega
        case rel => exact ⟨t + 1, by omega, by go_num, rfl⟩
      | false =>
        go_wp2_with (first
          | (at_lookup; refine wpList_lookup_set rfl _ _ rfl rfl hown (S4 t) hzt rfl ?_)
          | (go_at_call 11; refine hany.mono ?_; rintro e w' ⟨rfl, rfl⟩))
        go_roundg (gk - 1)
        case measure => omega
        case rel => exact ⟨t + 1, by omega, by go_num, rfl⟩
    · clear t1 t4 hz4
      go_wp2_with (first
        | (at_len; refine wpList_len_set rfl _ rfl rfl hown ?_)
        | (go_at_call 12; refine hdis.mono ?_; rintro e w' ⟨rfl, q, rfl⟩))
      go_ret
      exact ⟨rfl, below_drewN hbel _⟩

end Go.Proofs.Qxb6602989a
