/-
  What the branch law reckons itself, while it is reckoned.
-/
import Derived.Test.YbulkciosFmtReadyB
namespace Go.Proofs.YbulkciosFmt
open Go.RowKit Go.Extern.Stop Go.Stop Go.Extern

/-- The numbers that the law expects, the first i laid. -/
def curX (Q : Nat → Kid) (base : Int) (n i : Nat) : List Value := (List.range n).map fun j => .int .u64 (if j < i then expAt Q base j else 0)

theorem curX_length (Q : Nat → Kid) (base : Int) (n i : Nat) : (curX Q base n i).length = n := by simp [curX]
theorem curX_set (Q : Nat → Kid) (base : Int) (n i : Nat) (x : Int) (hx : x = expAt Q base i) : (curX Q base n i).set i (.int .u64 x) = curX Q base n (i + 1) := by
  subst hx
  apply List.ext_getElem?
  intro j
  rw [List.getElem?_set]
  by_cases h : i = j
  · subst h
    by_cases hl : i < n
    · simp [curX, hl]
    · simp [curX, hl]
  · rw [if_neg h]
    by_cases hl : j < n
    · simp only [curX, List.getElem?_map, List.getElem?_range hl, Option.map_some]
      congr 2
      by_cases h1 : j < i
      · rw [if_pos h1, if_pos (by omega)]
      · rw [if_neg h1, if_neg (by omega)]
    · simp [curX, hl]
theorem curX_set2 (Q : Nat → Kid) (base : Int) (n i : Nat) (y x : Int) (hx : x = expAt Q base i) : ((curX Q base n i).set i (.int .u64 y)).set i (.int .u64 x) = curX Q base n (i + 1) := by
  rw [List.set_set]
  exact curX_set Q base n i x hx
theorem curX_zero (Q : Nat → Kid) (base : Int) (n : Nat) : curX Q base n 0 = List.replicate n (.int .u64 0) := by
  apply List.ext_getElem?
  intro j
  by_cases h : j < n
  · simp [curX, h]
  · simp [curX, h]
theorem curX_all (Q : Nat → Kid) (base : Int) (n : Nat) : curX Q base n n = curK Q base n n := by
  unfold curX curK
  apply List.map_congr_left
  intro j hj
  rw [if_pos (by simpa using hj), if_pos (by simpa using hj)]

/-- What the law has reckoned of the first i kids. -/
structure Exp (w4 wr : World) (b5 xb n i : Nat) (Q : Nat → Kid) (base : Int) (t18 t19 t20 : Value) (row : List Value) : Prop where
  bel : Below w4.heap.size w4 wr
  lxb : w4.heap.size ≤ xb
  hxb : xb < b5
  xrow : RowAt wr xb 23 row
  rows : ∃ pages, Rows wr b5 (idsTo Q base i) pages (frdTo Q i) t18 t19 t20 ∧ pages.map (·.2) = pgsTo Q i

theorem Exp.more {w4 wr w' : World} {b5 xb n i : Nat} {Q : Nat → Kid} {base : Int} {t18 t19 t20 : Value} {row : List Value} (h : Exp w4 wr b5 xb n i Q base t18 t19 t20 row) (hg : wr.grownBy w' none) : Exp w4 w' b5 xb n i Q base t18 t19 t20 row := by
  obtain ⟨pages, h1, h2⟩ := h.rows
  exact ⟨h.bel.grown hg h.bel.size (fun k hk => nomatch hk), h.lxb, h.hxb, h.xrow.grown hg (by simp), ⟨pages, h1.more hg, h2⟩⟩

theorem Exp.set {w4 wr w' : World} {b5 xb n i : Nat} {Q : Nat → Kid} {base : Int} {t18 t19 t20 : Value} {row row' : List Value} (h : Exp w4 wr b5 xb n i Q base t18 t19 t20 row) (hr : RowAt w' xb 23 row') (hg : wr.grownBy w' (some xb)) : Exp w4 w' b5 xb n i Q base t18 t19 t20 row' := by
  obtain ⟨pages, h1, h2⟩ := h.rows
  exact ⟨h.bel.grown hg h.bel.size (fun k hk => by cases hk; exact h.lxb), h.lxb, h.hxb, hr, ⟨pages, h1.low hg h.hxb, h2⟩⟩

/-- 'min' in a region that draws. -/
theorem step_min {P : Program} {ops : Array Oper} {o : Oper} {a : Act} {w : World} {K : Act → World → Prop} {Q : Exit → Act → World → Prop} {E : Prop} (hgd : o.guard = none) (x y : Operand)
    (ho : o.op = .call { callee := .builtin .min, args := #[x, y], argTypes := #[3, 3] }) (m1 h : Nat) (hx : a.eval x = .int .i64 m1) (hy : a.eval y = .int .i64 h) (hlt : h < m1) (hK : K (a.put o.dst (.int .i64 h)) w) :
    if Region.wanted o (yielded ops a.tmps) = true then Oper.wp P o a w K Q else E := by
  have hw : Region.wanted o (yielded ops a.tmps) = true := by simp [Region.wanted, hgd]
  rw [if_pos hw]
  have hr : (Builtin.min_ #[3, 3] o.type #[.int .i64 (m1 : Int), .int .i64 (h : Int)]).run P w = .ok (.int .i64 (h : Int)) w := by
    rw [run_min_int2, if_pos (by omega)]
  unfold Oper.wp
  simp only [execOp, ho, resolve, invoke, builtin, hx, hy, hr, Sem.run_bind, Sem.run_pure, Result.andThen_ok, List.map_toArray, List.map_cons, List.map_nil]
  exact hK

theorem drewN_two (w : World) (a b : Nat) : (w.drewN a).drewN b = w.drewN (a + b) := by simp

theorem own_pages {w : World} {b : Nat} {v : Value} {pages : List (Nat × List Int)} (h : w.ownsRow b 26 1 v pages.length (slices pages)) (h0 : 0 < pages.length) : ∃ g c, v = .slice (some ⟨g, 0, none⟩) pages.length c ∧ ∀ j p, pages[j]? = some p → w.cell? ⟨g, j, none⟩ = some (.slice (some ⟨p.1, 0, none⟩) 4092 4092) := by
  have hh := h
  obtain ⟨_, ⟨_, h1⟩ | ⟨g, c, cur, rfl, _, _, hc, _⟩⟩ := h
  · omega
  · refine ⟨g, c, rfl, fun j p hp => ?_⟩
    have := hh.cells (g := g) rfl j (.slice (some ⟨p.1, 0, none⟩) 4092 4092) (by simp [slices, hp])
    have e : (⟨g, 0, none⟩ : Addr).add j = ⟨g, j, none⟩ := by unfold Addr.add; split <;> simp_all
    rw [e] at this
    exact this

/-- Two lists of pages that hold the same, place by place. -/
theorem same_pages {w1 w2 : World} {b1 b2 : Nat} {A B : List (Nat × List Int)} (h : A.map (·.2) = B.map (·.2)) (h1 : ∀ p ∈ A, b1 ≤ p.1 ∧ PRow w1 p.1 p.2) (h2 : ∀ p ∈ B, b2 ≤ p.1 ∧ PRow w2 p.1 p.2) (j : Nat) (hj : j < A.length) :
    ∃ ga gb xs, (∃ y, A[j]? = some y ∧ y.1 = ga) ∧ (∃ y, B[j]? = some y ∧ y.1 = gb) ∧ PRow w1 ga xs ∧ PRow w2 gb xs := by
  have hl : A.length = B.length := by
    have := congrArg List.length h
    simpa using this
  have e1 : A[j]? = some A[j] := List.getElem?_eq_getElem hj
  have e2 : B[j]? = some B[j] := List.getElem?_eq_getElem (by omega)
  have e3 : A[j].2 = B[j].2 := by
    have := congrArg (fun l => l[j]?) h
    simp only [List.getElem?_map, e1, e2, Option.map_some, Option.some.injEq] at this
    exact this
  refine ⟨A[j].1, B[j].1, A[j].2, ⟨_, e1, rfl⟩, ⟨_, e2, rfl⟩, (h1 _ (List.getElem_mem _)).2, ?_⟩
  rw [e3]
  exact (h2 _ (List.getElem_mem _)).2

/-- A slice of page numbers that the call owns. -/
theorem own_u64s {w : World} {b : Nat} {v : Value} {xs : List Int} (h : w.ownsRow b 23 1 v xs.length (u64s xs)) : ∃ a c g, v = .slice a xs.length c ∧ xs.length ≤ c ∧ (0 < xs.length → a = some ⟨g, 0, none⟩) ∧ ∀ j x, xs[j]? = some x → w.cell? ⟨g, j, none⟩ = some (.int .u64 x) := by
  rcases Nat.eq_zero_or_pos xs.length with h0 | h0
  · obtain ⟨_, ⟨rfl, _⟩ | ⟨g, c, cur, rfl, _, _, hc, _⟩⟩ := h
    · exact ⟨none, 0, 0, by rw [h0], by omega, fun h => absurd h (by omega), fun j x hx => by have := (List.getElem?_eq_some_iff.1 hx).1; omega⟩
    · exact ⟨_, c, 0, rfl, hc, fun h => absurd h (by omega), fun j x hx => by have := (List.getElem?_eq_some_iff.1 hx).1; omega⟩
  · have hh := h
    obtain ⟨_, ⟨_, h1⟩ | ⟨g, c, cur, rfl, _, _, hc, _⟩⟩ := h
    · omega
    · refine ⟨_, c, g, rfl, hc, fun _ => rfl, fun j x hx => ?_⟩
      have := hh.cells (g := g) rfl j (.int .u64 x) (by simp [u64s, hx])
      have e : (⟨g, 0, none⟩ : Addr).add j = ⟨g, j, none⟩ := by unfold Addr.add; split <;> simp_all
      rw [e] at this
      exact this

theorem u64s_at {w : World} {b : Nat} {v : Value} {xs : List Int} (h : w.ownsRow b 23 1 v xs.length (u64s xs)) : U64sAt w v xs := by
  obtain ⟨a, c, g, h1, _, h2, h3⟩ := own_u64s h
  exact ⟨a, c, g, h1, h2, h3⟩

theorem U64sAt.below {w w' : World} {v : Value} {xs : List Int} (h : U64sAt w v xs) (hb : Below w.heap.size w w') : U64sAt w' v xs := by
  obtain ⟨a, c, g, h1, h2, h3⟩ := h
  exact ⟨a, c, g, h1, h2, fun j x hx => cell_stays hb (h3 j x hx) (Nat.le_refl _)⟩

theorem U64sAt.drewN {w : World} {v : Value} {xs : List Int} (h : U64sAt w v xs) (m : Nat) : U64sAt (w.drewN m) v xs := h

theorem u64s_row {w : World} {B n c : Nat} {f : Nat → Int} (h : RowAt w B 23 ((List.range n).map fun j => .int .u64 (f j))) : U64sAt w (.slice (some ⟨B, 0, none⟩) n c) ((List.range n).map f) := by
  refine ⟨_, c, B, by simp, fun _ => rfl, fun j x hx => ?_⟩
  rw [h.cell j]
  rw [List.getElem?_map, Option.map_eq_some_iff] at hx
  obtain ⟨y, hy, rfl⟩ := hx
  simp [hy]

end Go.Proofs.YbulkciosFmt
