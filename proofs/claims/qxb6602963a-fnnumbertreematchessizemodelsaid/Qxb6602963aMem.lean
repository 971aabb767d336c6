import Derived.Test.Qxb6602963aBase
namespace Go.Proofs.Qxb6602963a
open Go.RowKit
set_option linter.unusedVariables false

/-- The call's first three blocks: the result's two cells, kidFirst, kidNext. -/
structure K1 (w wx : World) (g1 g2 m : Nat) (kf kn : Nat → Int) : Prop where
  b1 : w.heap.size < g1
  b2 : w.heap.size < g2
  ne : g1 ≠ g2
  res : wx.rowIs w.heap.size 46 2 (fun _ => .slice none 0 0)
  first : wx.rowIs g1 21 m (fun v => .int .i32 (kf v))
  next : wx.rowIs g2 21 m (fun v => .int .i32 (kn v))
  below : Below w.heap.size w wx

theorem K1.start (w : World) (m : Nat) : K1 w (((w.alloc (.cells #[.slice none 0 0, .slice none 0 0] 46)).alloc (.cells (madeCells #[.int .i32 0] m) 21)).alloc (.cells (madeCells #[.int .i32 0] m) 21)) (w.heap.size + 1) (w.heap.size + 1 + 1) m (fun _ => 0) (fun _ => 0) := by
  have hr : (w.alloc (.cells #[.slice none 0 0, .slice none 0 0] 46)).rowIs w.heap.size 46 2 (fun _ => .slice none 0 0) :=
    World.rowIs_alloc w #[.slice none 0 0, .slice none 0 0] 46 (fun _ => .slice none 0 0) (fun i hi => by
      match i, hi with
      | 0, _ => rfl
      | 1, _ => rfl)
  have h1 := World.rowIs_made (w.alloc (.cells #[.slice none 0 0, .slice none 0 0] 46)) (.int .i32 0) m 21
  have h2 := World.rowIs_made ((w.alloc (.cells #[.slice none 0 0, .slice none 0 0] 46)).alloc (.cells (madeCells #[.int .i32 0] m) 21)) (.int .i32 0) m 21
  have s1 : (w.alloc (.cells #[.slice none 0 0, .slice none 0 0] 46)).heap.size = w.heap.size + 1 := by simp
  have s2 : ((w.alloc (.cells #[.slice none 0 0, .slice none 0 0] 46)).alloc (.cells (madeCells #[.int .i32 0] m) 21)).heap.size = w.heap.size + 1 + 1 := by simp
  rw [s1] at h1
  rw [s2] at h2
  exact ⟨by omega, by omega, by omega, (hr.alloc _).alloc _, h1.alloc _, h2, (((Below.refl _ _).alloc (Nat.le_refl _) _).alloc (by rw [s1]; omega) _).alloc (by rw [s2]; omega) _⟩

theorem K1.drew {w wx : World} {g1 g2 m : Nat} {kf kn : Nat → Int} (h : K1 w wx g1 g2 m kf kn) : K1 w wx.drew g1 g2 m kf kn :=
  ⟨h.b1, h.b2, h.ne, h.res, h.first, h.next, h.below.drew⟩

theorem K1.swap {w wx : World} {g1 g2 m : Nat} {kf kn : Nat → Int} (h : K1 w wx g1 g2 m kf kn) : K1 w wx g2 g1 m kn kf :=
  ⟨h.b2, h.b1, h.ne.symm, h.res, h.next, h.first, h.below⟩

section
variable {w wx : World} {g1 g2 g3 g4 gd m n : Nat} {kf kn f3 f4 : Nat → Int}

theorem K1.setFirst (h : K1 w wx g1 g2 m kf kn) (i : Nat) (x : Int) : K1 w (wx.setCell ⟨g1, i, none⟩ (.int .i32 x)) g1 g2 m (fun v => if v = i then x else kf v) kn :=
  ⟨h.b1, h.b2, h.ne, h.res.setOther (by have := h.b1; show w.heap.size ≠ g1; omega) _, (h.first.set i _).congr (fun j _ => by by_cases e : j = i <;> simp [e]), h.next.setOther (by have := h.ne; show g2 ≠ g1; omega) _, h.below.setCell (by have := h.b1; show w.heap.size ≤ g1; omega) _⟩

theorem K1.setNext (h : K1 w wx g1 g2 m kf kn) (i : Nat) (x : Int) : K1 w (wx.setCell ⟨g2, i, none⟩ (.int .i32 x)) g1 g2 m kf (fun v => if v = i then x else kn v) :=
  (h.swap.setFirst i x).swap

theorem K1.congr (h : K1 w wx g1 g2 m kf kn) {kf' kn' : Nat → Int} (e1 : ∀ v, v < m → kf v = kf' v) (e2 : ∀ v, v < m → kn v = kn' v) : K1 w wx g1 g2 m kf' kn' :=
  ⟨h.b1, h.b2, h.ne, h.res, h.first.congr (fun v hv => by rw [e1 v hv]), h.next.congr (fun v hv => by rw [e2 v hv]), h.below⟩

/-- All blocks of the call: kidFirst, kidNext, the two rows of the answer, the struct that leads to them. -/
structure K2 (w wx : World) (g1 g2 g3 g4 gd m n : Nat) (kf kn f3 f4 : Nat → Int) : Prop where
  k1 : K1 w wx g1 g2 m kf kn
  b3 : w.heap.size < g3 ∧ w.heap.size < g4 ∧ w.heap.size < gd
  n3 : g3 ≠ g1 ∧ g3 ≠ g2 ∧ g3 ≠ g4 ∧ g3 ≠ gd
  n4 : g4 ≠ g1 ∧ g4 ≠ g2 ∧ g4 ≠ gd
  nd : gd ≠ g1 ∧ gd ≠ g2
  pre : wx.rowIs g3 21 n (fun v => .int .i32 (f3 v))
  post : wx.rowIs g4 21 n (fun v => .int .i32 (f4 v))
  str : wx.rowIs gd 46 2 (fun i => if i = 0 then .slice (some ⟨g3, 0, none⟩) n n else .slice (some ⟨g4, 0, none⟩) n n)

theorem K2.drew (h : K2 w wx g1 g2 g3 g4 gd m n kf kn f3 f4) : K2 w wx.drew g1 g2 g3 g4 gd m n kf kn f3 f4 :=
  ⟨h.k1.drew, h.b3, h.n3, h.n4, h.nd, h.pre, h.post, h.str⟩

theorem K2.congr (h : K2 w wx g1 g2 g3 g4 gd m n kf kn f3 f4) {f3' f4' : Nat → Int} (e1 : ∀ v, v < n → f3 v = f3' v) (e2 : ∀ v, v < n → f4 v = f4' v) : K2 w wx g1 g2 g3 g4 gd m n kf kn f3' f4' :=
  ⟨h.k1, h.b3, h.n3, h.n4, h.nd, h.pre.congr (fun v hv => by rw [e1 v hv]), h.post.congr (fun v hv => by rw [e2 v hv]), h.str⟩

theorem K1.other (h : K1 w wx g1 g2 m kf kn) {p : Addr} (hp : w.heap.size < p.block) (h1 : g1 ≠ p.block) (h2 : g2 ≠ p.block) (v : Value) : K1 w (wx.setCell p v) g1 g2 m kf kn :=
  ⟨h.b1, h.b2, h.ne, h.res.setOther (by omega) _, h.first.setOther h1 _, h.next.setOther h2 _, h.below.setCell (by omega) _⟩

theorem K2.setFirst (h : K2 w wx g1 g2 g3 g4 gd m n kf kn f3 f4) (i : Nat) (x : Int) : K2 w (wx.setCell ⟨g1, i, none⟩ (.int .i32 x)) g1 g2 g3 g4 gd m n (fun v => if v = i then x else kf v) kn f3 f4 :=
  ⟨h.k1.setFirst i x, h.b3, h.n3, h.n4, h.nd, h.pre.setOther (by exact h.n3.1) _, h.post.setOther (by exact h.n4.1) _, h.str.setOther (by exact h.nd.1) _⟩

theorem K2.setPre (h : K2 w wx g1 g2 g3 g4 gd m n kf kn f3 f4) (i : Nat) (x : Int) : K2 w (wx.setCell ⟨g3, i, none⟩ (.int .i32 x)) g1 g2 g3 g4 gd m n kf kn (fun v => if v = i then x else f3 v) f4 :=
  ⟨h.k1.other (by exact h.b3.1) (by exact h.n3.1.symm) (by exact h.n3.2.1.symm) _, h.b3, h.n3, h.n4, h.nd, (h.pre.set i _).congr (fun j _ => by by_cases e : j = i <;> simp [e]), h.post.setOther (by exact h.n3.2.2.1.symm) _, h.str.setOther (by exact h.n3.2.2.2.symm) _⟩

theorem K2.setPost (h : K2 w wx g1 g2 g3 g4 gd m n kf kn f3 f4) (i : Nat) (x : Int) : K2 w (wx.setCell ⟨g4, i, none⟩ (.int .i32 x)) g1 g2 g3 g4 gd m n kf kn f3 (fun v => if v = i then x else f4 v) :=
  ⟨h.k1.other (by exact h.b3.2.1) (by exact h.n4.1.symm) (by exact h.n4.2.1.symm) _, h.b3, h.n3, h.n4, h.nd, h.pre.setOther (by exact h.n3.2.2.1) _, (h.post.set i _).congr (fun j _ => by by_cases e : j = i <;> simp [e]), h.str.setOther (by exact h.n4.2.2.symm) _⟩

/-- What is done from block B on turns none of them. -/
theorem K2.later {w' : World} {B : Nat} (h : K2 w wx g1 g2 g3 g4 gd m n kf kn f3 f4) (hb : Below B wx w') (hB : g1 < B ∧ g2 < B ∧ g3 < B ∧ g4 < B ∧ gd < B) : K2 w w' g1 g2 g3 g4 gd m n kf kn f3 f4 := by
  have h1 := h.k1.b1
  exact ⟨⟨h.k1.b1, h.k1.b2, h.k1.ne, h.k1.res.of_block (hb.block _ (by omega)), h.k1.first.of_block (hb.block _ hB.1), h.k1.next.of_block (hb.block _ hB.2.1), h.k1.below.trans (hb.mono (by omega))⟩,
    h.b3, h.n3, h.n4, h.nd, h.pre.of_block (hb.block _ hB.2.2.1), h.post.of_block (hb.block _ hB.2.2.2.1), h.str.of_block (hb.block _ hB.2.2.2.2)⟩

theorem K2.lts (h : K2 w wx g1 g2 g3 g4 gd m n kf kn f3 f4) : g1 < wx.heap.size ∧ g2 < wx.heap.size ∧ g3 < wx.heap.size ∧ g4 < wx.heap.size ∧ gd < wx.heap.size :=
  ⟨h.k1.first.lt, h.k1.next.lt, h.pre.lt, h.post.lt, h.str.lt⟩

theorem K2.s0 (h : K2 w wx g1 g2 g3 g4 gd m n kf kn f3 f4) : wx.cell? ⟨gd, 0, none⟩ = some (.slice (some ⟨g3, 0, none⟩) n n) := h.str.cell (by omega)
theorem K2.s1 (h : K2 w wx g1 g2 g3 g4 gd m n kf kn f3 f4) : wx.cell? ⟨gd, 1, none⟩ = some (.slice (some ⟨g4, 0, none⟩) n n) := h.str.cell (by omega)

/-- The stack as it lies at first. -/
theorem own_start (wx : World) : (wx.alloc (.cells #[.int .i32 0] 21)).ownsRow wx.heap.size 21 1 (.slice (some ⟨wx.heap.size, 0, none⟩) 1 1) 1 [.int .i32 0] :=
  ⟨rfl, .inr ⟨_, 1, #[.int .i32 0], rfl, Nat.le_refl _, Deep.blk_alloc_new _ _, Nat.le_refl _, by unfold maxLen; omega, rfl, rfl⟩⟩

theorem blk3_1 (w : World) (a b c : Obj) : (((w.alloc a).alloc b).alloc c).heap[w.heap.size]? = some a := by
  rw [Below.heap_alloc _ _ _ (by simp; omega), Below.heap_alloc _ _ _ (by simp)]
  exact Deep.blk_alloc_new _ _
theorem blk3_2 (w : World) (a b c : Obj) : (((w.alloc a).alloc b).alloc c).heap[w.heap.size + 1]? = some b := by
  rw [Below.heap_alloc _ _ _ (by simp)]
  have h := Deep.blk_alloc_new (w.alloc a) b
  rw [show (w.alloc a).heap.size = w.heap.size + 1 by simp] at h
  exact h
theorem blk3_3 (w : World) (a b c : Obj) : (((w.alloc a).alloc b).alloc c).heap[w.heap.size + 1 + 1]? = some c := by
  have h := Deep.blk_alloc_new ((w.alloc a).alloc b) c
  rw [show ((w.alloc a).alloc b).heap.size = w.heap.size + 1 + 1 by simp] at h
  exact h
theorem below3 (w : World) (a b c : Obj) : Below w.heap.size w (((w.alloc a).alloc b).alloc c) :=
  (((Below.refl _ _).alloc (Nat.le_refl _) _).alloc (by simp) _).alloc (by simp; omega) _

theorem made_row {w : World} {b : Nat} {n : Nat} (h : w.heap[b]? = some (.cells (madeCells #[.int .i32 0] n) 21 (0, 0))) : w.rowIs b 21 n (fun _ => .int .i32 0) :=
  ⟨_, h, size_madeCells _ _, fun i hi => by simp [madeCells, hi, Nat.mod_one]⟩

/-- The answer's two rows and their struct, in whatever order they were laid. -/
theorem K2.of_blocks {W : World} (h : K1 w wx g1 g2 m kf kn) (hb : Below wx.heap.size wx W) (hd : W.heap[gd]? = some (.cells #[.slice (some ⟨g3, 0, none⟩) n n, .slice (some ⟨g4, 0, none⟩) n n] 46 (0, 0)))
    (h3 : W.heap[g3]? = some (.cells (madeCells #[.int .i32 0] n) 21 (0, 0))) (h4 : W.heap[g4]? = some (.cells (madeCells #[.int .i32 0] n) 21 (0, 0)))
    (hne : wx.heap.size ≤ g3 ∧ wx.heap.size ≤ g4 ∧ wx.heap.size ≤ gd ∧ g3 ≠ g4 ∧ g3 ≠ gd ∧ g4 ≠ gd) : K2 w W g1 g2 g3 g4 gd m n kf kn (fun _ => 0) (fun _ => 0) := by
  obtain ⟨n1, n2, n3, n4, n5, n6⟩ := hne
  have l1 := h.first.lt
  have l2 := h.next.lt
  have lr := h.res.lt
  refine ⟨⟨h.b1, h.b2, h.ne, h.res.of_block (hb.block _ lr), h.first.of_block (hb.block _ l1), h.next.of_block (hb.block _ l2), h.below.trans (hb.mono (by omega))⟩, ⟨by omega, by omega, by omega⟩, ⟨by omega, by omega, n4, n5⟩, ⟨by omega, by omega, n6⟩, ⟨by omega, by omega⟩, made_row h3, made_row h4, ⟨_, hd, rfl, fun i hi => ?_⟩⟩
  match i, hi with
  | 0, _ => rfl
  | 1, _ => rfl
end

/-- The stack's slice: it owns the numbers of st, the top last. -/
def Stk (wr : World) (B g cap : Nat) (st : List Nat) : Prop :=
  wr.ownsRow B 21 1 (.slice (some ⟨g, 0, none⟩) st.length cap) st.length (st.reverse.map (fun v : Nat => Value.int .i32 (v : Int)))

theorem Stk.kept {wr w' : World} {B g cap : Nat} {st : List Nat} (h : Stk wr B g cap st) (e : w'.heap[g]? = wr.heap[g]?) : Stk w' B g cap st := by
  obtain ⟨h1, h2⟩ := h
  refine ⟨h1, ?_⟩
  rcases h2 with ⟨h2, _⟩ | ⟨g', cap', cur, hv, hg, hh, r⟩
  · simp at h2
  · simp only [Value.slice.injEq, Option.some.injEq, Addr.mk.injEq, and_true, true_and] at hv
    obtain ⟨rfl, rfl⟩ := hv
    exact .inr ⟨g, cap, cur, rfl, hg, e.trans hh, r⟩

theorem Stk.le {wr : World} {B g cap : Nat} {st : List Nat} (h : Stk wr B g cap st) : B ≤ g ∧ st.length ≤ cap ∧ cap ≤ maxLen := by
  rcases h.2 with ⟨h2, _⟩ | ⟨g', cap', cur, hv, hg, hh, h3, h4, _⟩
  · simp at h2
  · simp only [Value.slice.injEq, Option.some.injEq, Addr.mk.injEq, and_true, true_and] at hv
    obtain ⟨rfl, rfl⟩ := hv
    exact ⟨hg, h3, h4⟩

theorem Stk.top {wr : World} {B g cap : Nat} {v : Nat} {r : List Nat} (h : Stk wr B g cap (v :: r)) : wr.cell? ⟨g, r.length, none⟩ = some (.int .i32 (v : Int)) := by
  have h1 := World.ownsRow.cellAt h r.length (by simp)
  rw [h1]
  simp

theorem Stk.pop {wr : World} {B g cap : Nat} {v : Nat} {r : List Nat} (h : Stk wr B g cap (v :: r)) : Stk wr B g cap r := by
  obtain ⟨h1, h2⟩ := h
  rcases h2 with ⟨h2, _⟩ | ⟨g', cap', cur, hv, hg, hh, h3, h4, h5, h6⟩
  · simp at h2
  · simp only [Value.slice.injEq, Option.some.injEq, Addr.mk.injEq, and_true, true_and] at hv
    obtain ⟨rfl, rfl⟩ := hv
    simp only [List.length_cons] at h3 h6
    refine ⟨by simp, .inr ⟨g, cap, cur, rfl, hg, hh, by omega, h4, h5, ?_⟩⟩
    have e : (cur.toList.take ((r.length + 1) * 1)).take (r.length * 1) = cur.toList.take (r.length * 1) := by
      rw [List.take_take]
      congr 1
      omega
    rw [← e, h6]
    simp

theorem Stk.start {wr : World} {B : Nat} (h : wr.ownsRow B 21 1 (.slice (some ⟨B, 0, none⟩) 1 1) 1 [.int .i32 0]) : Stk wr B B 1 [0] := h

/-- k is laid on the stack. -/
theorem Stk.push {wr : World} {B : Nat} {st : List Nat} {k : Nat} {v' : Value} (h : wr.ownsRow B 21 1 v' (st.length + 1) (st.reverse.map (fun v : Nat => Value.int .i32 (v : Int)) ++ [.int .i32 (k : Int)])) :
    ∃ g cap, v' = .slice (some ⟨g, 0, none⟩) (k :: st).length cap ∧ Stk wr B g cap (k :: st) := by
  have h' := h
  rcases h.2 with ⟨_, h2⟩ | ⟨g, cap, cur, hv, _⟩
  · omega
  · subst hv
    refine ⟨g, cap, rfl, ?_⟩
    unfold Stk
    rw [List.reverse_cons, List.map_append]
    exact h'

theorem wpList_pushStk {ops : Array Oper} {rest : List Oper} {o : Oper} {a : Act} {Q : Exit → Act → World → Prop} (hgd : o.guard = none) (s x : Operand)
    (ho : o.op = .call { callee := .builtin .append, args := #[s, x], argTypes := #[22, 22] }) {B g cap k : Nat} {W : World} {st : List Nat} (hs : a.eval s = .slice (some ⟨g, 0, none⟩) st.length cap) (hx : a.eval x = .slice (some ⟨W.heap.size, 0, none⟩) 1 1)
    (hstk : Stk W B g cap st) (hsm : st.length ≤ 200000) (hB : B ≤ W.heap.size) (h : ∀ v' W', (∃ g' cap', v' = .slice (some ⟨g', 0, none⟩) (k :: st).length cap' ∧ Stk W' B g' cap' (k :: st)) → Below B W W' → wpList Try.prog ops Q rest (a.put o.dst v') W') :
    wpList Try.prog ops Q (o :: rest) a (W.alloc (.cells #[.int .i32 (k : Int)] 21)) := by
  obtain ⟨i0, hi, hz0, hz1, hz2⟩ := info_parts Try.info21
  refine wpList_append_own _ hgd s x 22 ho B 21 i0 (.int .i32 0) 1 4 Try.underlying22 hi hz0 hz1 hz2 rfl (by decide) _ st.length _ hs (World.ownsRow.alloc hstk _) ⟨W.heap.size, 0, none⟩ 1 1 [.int .i32 (k : Int)] hx rfl (cell_one_new _ _ _) (ints_oneCell .i32 [(k : Int)])
    (by unfold maxLen; omega) (by omega) (by simp; omega) ?_
  intro v' w' ho' hg _
  refine h v' w' (Stk.push ho') (((Below.refl _ _).alloc hB _).grown hg (by simp; omega) (fun j hj => ?_))
  have := hstk.le.1
  simp [Value.ownBlock] at hj
  omega

/-- The walk over the tree in its midst, as it lies in memory. -/
structure DS (w wr : World) (g1 g2 g3 g4 gd m n : Nat) (d vx : Nat → Nat) (B cnt : Nat) (st : List Nat) (g cap : Nat) (vis : Nat → Prop) (kf f3 f4 : Nat → Int) : Prop where
  mem : K2 w wr g1 g2 g3 g4 gd m n kf (fun i => if 0 < i then Plain.nc d m (d i) (m - 1 - i) else 0) f3 f4
  dfs : Plain.Dfs d m vx kf cnt st vis f3 f4
  stk : Stk wr B g cap st

theorem DS.pop {w wr : World} {g1 g2 g3 g4 gd m n : Nat} {d vx : Nat → Nat} {B cnt : Nat} {v : Nat} {r : List Nat} {g cap : Nat} {vis : Nat → Prop} {kf f3 f4 : Nat → Int} (htree : Plain.Tree d m) (hvi : ∀ i j, i < m → j < m → vx i = vx j → i = j)
    (hK : K2 w wr g1 g2 g3 g4 gd m n kf (fun i => if 0 < i then Plain.nc d m (d i) (m - 1 - i) else 0) f3 f4) (hd : Plain.Dfs d m vx kf cnt (v :: r) vis f3 f4) (hs : Stk wr B g cap (v :: r)) (hk : kf v = -1) (h4 : g4 < B) :
    DS w (wr.setCell ⟨g4, vx v, none⟩ (.int .i32 ((cnt : Int) + 1))).drew g1 g2 g3 g4 gd m n d vx B cnt r g cap vis kf f3 (fun u => if u = vx v then ((cnt : Int) + 1) else f4 u) := by
  have := hs.le.1
  exact ⟨(hK.setPost (vx v) _).drew, Plain.dfs_pop htree hvi hd hk, hs.pop.kept (Below.heap_setCell _ _ _ _ (by show g ≠ g4; omega))⟩

theorem DS.push {w wr : World} {g1 g2 g3 g4 gd m n : Nat} {d vx : Nat → Nat} {B cnt : Nat} {v k : Nat} {r : List Nat} {g cap : Nat} {vis : Nat → Prop} {kf f3 f4 : Nat → Int} (htree : Plain.Tree d m) (hvi : ∀ i j, i < m → j < m → vx i = vx j → i = j)
    (hK : K2 w wr g1 g2 g3 g4 gd m n kf (fun i => if 0 < i then Plain.nc d m (d i) (m - 1 - i) else 0) f3 f4) (hd : Plain.Dfs d m vx kf cnt (v :: r) vis f3 f4) (hs : Stk wr B g cap (v :: r)) (hk : kf v = (k : Int)) (h1 : g1 < B) (h3 : g3 < B) :
    cnt + 1 < m ∧ K2 w ((wr.setCell ⟨g1, v, none⟩ (.int .i32 (Plain.nc d m (d k) (m - 1 - k)))).setCell ⟨g3, vx k, none⟩ (.int .i32 ((cnt : Int) + 1))).drew g1 g2 g3 g4 gd m n (fun u => if u = v then Plain.nc d m (d k) (m - 1 - k) else kf u) (fun i => if 0 < i then Plain.nc d m (d i) (m - 1 - i) else 0) (fun u => if u = vx k then ((cnt : Int) + 1) else f3 u) f4
    ∧ Plain.Dfs d m vx (fun u => if u = v then Plain.nc d m (d k) (m - 1 - k) else kf u) (cnt + 1) (k :: v :: r) (fun j => j = k ∨ vis j) (fun u => if u = vx k then ((cnt : Int) + 1) else f3 u) f4
    ∧ Stk ((wr.setCell ⟨g1, v, none⟩ (.int .i32 (Plain.nc d m (d k) (m - 1 - k)))).setCell ⟨g3, vx k, none⟩ (.int .i32 ((cnt : Int) + 1))).drew B g cap (v :: r) := by
  have := hs.le.1
  obtain ⟨h, hd'⟩ := Plain.dfs_push htree hvi hd hk
  exact ⟨h, ((hK.setFirst v _).setPre (vx k) _).drew, hd', (hs.kept (Below.heap_setCell _ _ _ _ (by show g ≠ g1; omega))).kept (Below.heap_setCell _ _ _ _ (by show g ≠ g3; omega))⟩

theorem DS.start {w wy : World} {g1 g2 g3 g4 gd m n t : Nat} {d vx : Nat → Nat} {B : Nat} (htree : Plain.Tree d m) (hm : 1 ≤ m) (hvi : ∀ i j, i < m → j < m → vx i = vx j → i = j) (hnt : n ≤ t)
    (hK : K2 w wy g1 g2 g3 g4 gd m n (fun v => Plain.nc d m v (m - 1)) (fun i => if 0 < i then Plain.nc d m (d i) (m - 1 - i) else 0) (fun v => if v < t then -1 else 0) (fun v => if v < t then -1 else 0)) (hst : Stk wy B B 1 [0]) (h3 : g3 < B) :
    DS w (wy.setCell ⟨g3, vx 0, none⟩ (.int .i32 0)).drew g1 g2 g3 g4 gd m n d vx B 0 [0] B 1 (fun j => j = 0) (fun v => Plain.nc d m v (m - 1)) (fun u => if u = vx 0 then 0 else -1) (fun _ => -1) :=
  ⟨((hK.setPre (vx 0) 0).drew).congr (fun v hv => by rw [if_pos (by omega : v < t)]) (fun v hv => if_pos (by omega)), Plain.dfs_start htree hm hvi, hst.kept (Below.heap_setCell _ _ _ _ (by show B ≠ g3; omega))⟩

end Go.Proofs.Qxb6602963a
