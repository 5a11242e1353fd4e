/-
  'LawS4230CBranch' (4): the branch while it is built.
-/
import Derived.Test.YbulkciosFmtWriteB2
namespace Go.Proofs.YbulkciosFmt
open Go.RowKit Go.Extern.Stop Go.Stop Go.Extern

/-- The kids that came in. -/
structure KidsAt (w : World) (p off n : Nat) (Q : Nat → Kid) : Prop where
  c0 : ∀ i, i < n → w.cell? ⟨p, off + i * 6, none⟩ = some (.bool (Q i).loaded)
  c1 : ∀ i, i < n → w.cell? ⟨p, off + i * 6 + 1, none⟩ = some (.bool (Q i).dirty)
  c2 : ∀ i, i < n → w.cell? ⟨p, off + i * 6 + 2, none⟩ = some (.int .u64 (Q i).old)
  c3 : ∀ i, i < n → w.cell? ⟨p, off + i * 6 + 3, none⟩ = some (.string (Q i).k)
  c4 : ∀ i, i < n → w.cell? ⟨p, off + i * 6 + 4, none⟩ = some (.string (Q i).v)
  c5 : ∀ i, i < n → w.cell? ⟨p, off + i * 6 + 5, none⟩ = some (.string (Q i).sep)
  ok : ∀ i, i < n → (Q i).Ok

/-- A row's type, read in an older world. -/
theorem TypeAt.grown {w w' : World} {p : Nat} {t : TypeId} {r : Option Nat} (h : TypeAt w p t) (hg : w.grownBy w' r) (hr : some p ≠ r) : TypeAt w' p t := by
  obtain ⟨c, f, e⟩ := h
  have hlt : p < w.heap.size := by
    rcases Nat.lt_or_ge p w.heap.size with a | a
    · exact a
    · rw [Array.getElem?_eq_none a] at e; cases e
  exact ⟨c, f, (hg.block p hlt hr).trans e⟩

/-- What a step may turn: the seps' own row, or a row of another type than bytes, rows of slices and nodes. -/
def Other (w : World) (x : Option Nat) (r : Option Nat) : Prop := ∀ k, r = some k → ∃ t, TypeAt w k t ∧ t ≠ 5 ∧ t ≠ 34 ∧ (t = 26 → some k = x)

theorem Other.none (w : World) (x : Option Nat) : Other w x none := fun k h => by cases h

theorem BytesAt.grown {w w' : World} {b b' p : Nat} {ys : List Int} {r x : Option Nat} (h : BytesAt w b p ys) (hg : w.grownBy w' r) (hr : Other w x r) (hb : b ≤ b') : BytesAt w' b' p ys := by
  have hne : some p ≠ r := fun e => by
    obtain ⟨t, ht, h5, _⟩ := hr p e.symm
    exact TypeAt.ne h.type ht (fun e => h5 e.symm) rfl
  exact ⟨Nat.lt_of_lt_of_le h.lt hb, h.type.grown hg hne, fun i y hy => hg.cell (h.at_ i y hy) hne⟩

/-- A loaded kid, its rows apart from the seps' own row. -/
def KidAtX (w : World) (q : Kid) (nd : Nat) (x : Option Nat) : Prop := ∃ kr vr kp vp kc vc, nd < w.heap.size ∧ kr < w.heap.size ∧ vr < w.heap.size ∧
  RowAt w nd 34 (nodeRow q.old q.dirty true (.slice (some ⟨kr, 0, none⟩) 1 1) (.slice (some ⟨vr, 0, none⟩) 1 1) (.slice none 0 0) (.slice none 0 0) q.sz) ∧
  RowAt w kr 26 [.slice (some ⟨kp, 0, none⟩) (bs q.k).length kc] ∧ RowAt w vr 26 [.slice (some ⟨vp, 0, none⟩) (bs q.v).length vc] ∧ BytesAt w w.heap.size kp (bs q.k) ∧ BytesAt w w.heap.size vp (bs q.v) ∧ some kr ≠ x ∧ some vr ≠ x

theorem KidAtX.grown {w w' : World} {q : Kid} {nd : Nat} {x x' r : Option Nat} (h : KidAtX w q nd x) (hg : w.grownBy w' r) (hr : Other w x r) (hx : x' = x ∨ ∃ k, x' = some k ∧ w.heap.size ≤ k) : KidAtX w' q nd x' := by
  obtain ⟨kr, vr, kp, vp, kc, vc, l1, l2, l3, r1, r2, r3, b1, b2, x1, x2⟩ := h
  have hn : some nd ≠ r := fun e => by
    obtain ⟨t, ht, _, h34, _⟩ := hr nd e.symm
    exact TypeAt.ne r1.type ht (fun e => h34 e.symm) rfl
  have h26 : ∀ k cur, RowAt w k 26 cur → some k ≠ x → some k ≠ r := fun k cur hrow hkx e => by
    obtain ⟨t, ht, _, _, h6⟩ := hr k e.symm
    by_cases h : t = 26
    · exact hkx (h6 h)
    · exact TypeAt.ne hrow.type ht (fun e => h e.symm) rfl
  have hx' : ∀ k, k < w.heap.size → some k ≠ x → some k ≠ x' := fun k hk hkx => by
    rcases hx with rfl | ⟨k', rfl, hk'⟩
    · exact hkx
    · intro e
      cases e
      omega
  have hs := hg.size
  exact ⟨kr, vr, kp, vp, kc, vc, by omega, by omega, by omega, r1.grown hg hn, r2.grown hg (h26 _ _ r2 x1), r3.grown hg (h26 _ _ r3 x2), b1.grown hg hr hs, b2.grown hg hr hs, hx' _ l2 x1, hx' _ l3 x2⟩

theorem KidAtX.kid {w : World} {q : Kid} {nd : Nat} {x : Option Nat} (h : KidAtX w q nd x) : KidAt w w.heap.size q nd := by
  obtain ⟨kr, vr, kp, vp, kc, vc, l1, l2, l3, r1, r2, r3, b1, b2, _⟩ := h
  exact ⟨kr, vr, kp, vp, kc, vc, l1, l2, l3, r1, r2, r3, b1, b2⟩

/-- The separators so far. -/
def SepsAt (w : World) (xs : List Value) (Q : Nat → Kid) (m : Nat) : Prop := ∀ j, j < m → ∃ p c, xs[j]? = some (.slice (some ⟨p, 0, none⟩) (bs (Q (j + 1)).sep).length c) ∧ BytesAt w w.heap.size p (bs (Q (j + 1)).sep)

theorem SepsAt.grown {w w' : World} {xs : List Value} {Q : Nat → Kid} {m : Nat} {r x : Option Nat} (h : SepsAt w xs Q m) (hg : w.grownBy w' r) (hr : Other w x r) : SepsAt w' xs Q m := fun j hj => by
  obtain ⟨p, c, h1, h2⟩ := h j hj
  exact ⟨p, c, h1, h2.grown hg hr hg.size⟩

/-- The numbers of the kids, the first i laid. -/
def curO (Q : Nat → Kid) (n i : Nat) : List Value := (List.range n).map fun j => .int .u64 (if j < i then (Q j).old else 0)
/-- The pointers to the kids, the first i laid. -/
def ptrsO (Q : Nat → Kid) (nd : Nat → Nat) (n i : Nat) : List Value := (List.range n).map fun j => if j < i ∧ (Q j).loaded then .pointer (some ⟨nd j, 0, none⟩) else .pointer none

theorem curO_length (Q : Nat → Kid) (n i : Nat) : (curO Q n i).length = n := by simp [curO]
theorem ptrsO_length (Q : Nat → Kid) (nd : Nat → Nat) (n i : Nat) : (ptrsO Q nd n i).length = n := by simp [ptrsO]
theorem curO_set (Q : Nat → Kid) (n i : Nat) : (curO Q n i).set i (.int .u64 (Q i).old) = curO Q n (i + 1) := by
  apply List.ext_getElem?
  intro j
  rw [List.getElem?_set]
  by_cases h : i = j
  · subst h
    by_cases hl : i < n
    · simp [curO, hl]
    · simp [curO, hl]
  · rw [if_neg h]
    by_cases hl : j < n
    · simp only [curO, List.getElem?_map, List.getElem?_range hl, Option.map_some]
      congr 2
      by_cases h1 : j < i
      · rw [if_pos h1, if_pos (by omega)]
      · rw [if_neg h1, if_neg (by omega)]
    · simp [curO, hl]
theorem curO_all (Q : Nat → Kid) (base : Int) (n : Nat) : curO Q n n = curK Q base n 0 := by
  unfold curO curK
  apply List.map_congr_left
  intro j hj
  rw [if_pos (by simpa using hj), if_neg (by omega)]
theorem ptrsO_skip (Q : Nat → Kid) (nd : Nat → Nat) (n i : Nat) (h : (Q i).loaded = false) : ptrsO Q nd n i = ptrsO Q nd n (i + 1) := by
  unfold ptrsO
  apply List.map_congr_left
  intro j _
  by_cases h1 : j < i
  · simp [h1, Nat.lt_succ_of_lt h1]
  · by_cases h2 : j = i
    · subst h2
      simp [h]
    · simp [h1, show ¬ j < i + 1 by omega]
theorem ptrsO_set (Q : Nat → Kid) (nd nd' : Nat → Nat) (n i b : Nat) (h : (Q i).loaded = true) (hb : nd' i = b) (hnd : ∀ j, j < i → nd' j = nd j) : (ptrsO Q nd n i).set i (.pointer (some ⟨b, 0, none⟩)) = ptrsO Q nd' n (i + 1) := by
  apply List.ext_getElem?
  intro j
  rw [List.getElem?_set]
  by_cases h1 : i = j
  · subst h1
    by_cases hl : i < n
    · simp [ptrsO, hl, h, hb]
    · simp [ptrsO, hl]
  · rw [if_neg h1]
    by_cases hl : j < n
    · simp only [ptrsO, List.getElem?_map, List.getElem?_range hl, Option.map_some]
      congr 1
      by_cases h2 : j < i
      · rw [hnd j h2]
        simp [h2, Nat.lt_succ_of_lt h2]
      · simp [h2, show ¬ j < i + 1 by omega]
    · simp [ptrsO, hl]
theorem ptrsO_all (Q : Nat → Kid) (nd : Nat → Nat) (n : Nat) : ptrsO Q nd n n = ptrs Q nd n := by
  unfold ptrsO ptrs
  apply List.map_congr_left
  intro j hj
  simp [show j < n by simpa using hj]

/-- The branch, being built. -/
structure Cons (w wr : World) (n ik im ms kb nb bn : Nat) (Q : Nat → Kid) (nd : Nat → Nat) (pid : Int) (t8 : Value) : Prop where
  bel : Below w.heap.size w wr
  lkb : w.heap.size ≤ kb
  lnb : w.heap.size ≤ nb
  lbn : w.heap.size ≤ bn
  kids : RowAt wr kb 23 (curO Q n ik)
  nodes : RowAt wr nb 29 (ptrsO Q nd n im)
  par : RowAt wr bn 34 (nodeRow pid true false (.slice none 0 0) (.slice none 0 0) (.slice (some ⟨kb, 0, none⟩) n n) (.slice (some ⟨nb, 0, none⟩) n n) 0)
  seps : ∃ xs, wr.ownsRow w.heap.size 26 1 t8 ms xs ∧ SepsAt wr xs Q ms
  left : ∀ j, j < im → (Q j).loaded = true → KidAtX wr (Q j) (nd j) t8.ownBlock ∧ w.heap.size ≤ nd j ∧ nd j ≠ bn
  apart : ∀ j j', j < im → j' < im → (Q j).loaded = true → (Q j').loaded = true → j ≠ j' → nd j ≠ nd j'

theorem Cons.more {w wr w' : World} {n ik im ms kb nb bn : Nat} {Q : Nat → Kid} {nd : Nat → Nat} {pid : Int} {t8 : Value} (h : Cons w wr n ik im ms kb nb bn Q nd pid t8) (hg : wr.grownBy w' none) : Cons w w' n ik im ms kb nb bn Q nd pid t8 := by
  obtain ⟨xs, s1, s2⟩ := h.seps
  refine ⟨h.bel.grown hg h.bel.size (fun k hk => nomatch hk), h.lkb, h.lnb, h.lbn, h.kids.grown hg (by simp), h.nodes.grown hg (by simp), h.par.grown hg (by simp), ⟨xs, s1.kept hg ?_, s2.grown hg (Other.none _ none)⟩, fun j hj hl => ?_, h.apart⟩
  · cases t8.ownBlock <;> simp
  · obtain ⟨a, b, c⟩ := h.left j hj hl
    exact ⟨a.grown hg (Other.none _ _) (.inl rfl), b, c⟩

theorem own_type {w : World} {b e : Nat} {v : Value} {n : Nat} {xs : List Value} (h : w.ownsRow b e 1 v n xs) (k : Nat) (hk : v.ownBlock = some k) : TypeAt w k e := by
  obtain ⟨_, ⟨rfl, _⟩ | ⟨g', cap, c, rfl, _, hg, _⟩⟩ := h
  · simp [Value.ownBlock] at hk
  · have : g' = k := by simpa [Value.ownBlock] using hk
    subst this
    exact ⟨_, _, hg⟩

/-- A store into a row of another type. -/
theorem Cons.rows {w wr w' : World} {n ik im ms kb nb bn : Nat} {Q : Nat → Kid} {nd : Nat → Nat} {pid : Int} {t8 : Value} (h : Cons w wr n ik im ms kb nb bn Q nd pid t8) {k : Nat} {t : TypeId} (hg : wr.grownBy w' (some k)) (ht : TypeAt wr k t) (hk : w.heap.size ≤ k) (h1 : t ≠ 5) (h2 : t ≠ 34) (h3 : t ≠ 26) :
    Below w.heap.size w w' ∧ (t ≠ 23 → RowAt w' kb 23 (curO Q n ik)) ∧ (t ≠ 29 → RowAt w' nb 29 (ptrsO Q nd n im)) ∧ RowAt w' bn 34 (nodeRow pid true false (.slice none 0 0) (.slice none 0 0) (.slice (some ⟨kb, 0, none⟩) n n) (.slice (some ⟨nb, 0, none⟩) n n) 0) ∧
    (∃ xs, w'.ownsRow w.heap.size 26 1 t8 ms xs ∧ SepsAt w' xs Q ms) ∧ (∀ j, j < im → (Q j).loaded = true → KidAtX w' (Q j) (nd j) t8.ownBlock ∧ w.heap.size ≤ nd j ∧ nd j ≠ bn) := by
  have ho : Other wr t8.ownBlock (some k) := fun k' e => by cases e; exact ⟨t, ht, h1, h2, fun e => absurd e h3⟩
  obtain ⟨xs, s1, s2⟩ := h.seps
  refine ⟨h.bel.grown hg h.bel.size (fun k' e => by cases e; exact hk), fun hne => h.kids.grown hg ?_, fun hne => h.nodes.grown hg ?_, h.par.grown hg ?_, ⟨xs, s1.kept hg ?_, s2.grown hg ho⟩, fun j hj hl => ?_⟩
  · intro e; cases e; exact TypeAt.ne h.kids.type ht (fun e => hne e.symm) rfl
  · intro e; cases e; exact TypeAt.ne h.nodes.type ht (fun e => hne e.symm) rfl
  · intro e; cases e; exact TypeAt.ne h.par.type ht (fun e => h2 e.symm) rfl
  · cases hv : t8.ownBlock with
    | none => exact .inl rfl
    | some g =>
      refine .inr fun e => ?_
      cases e
      exact TypeAt.ne (own_type s1 _ hv) ht (fun e => h3 e.symm) rfl
  · obtain ⟨a, b, c⟩ := h.left j hj hl
    exact ⟨a.grown hg ho (.inl rfl), b, c⟩

/-- A kid's number is laid. -/
theorem Cons.setKid {w wr w' : World} {n im ms kb nb bn i : Nat} {Q : Nat → Kid} {nd : Nat → Nat} {pid : Int} {t8 : Value} (h : Cons w wr n i im ms kb nb bn Q nd pid t8) (hr : RowAt w' kb 23 ((curO Q n i).set i (.int .u64 (Q i).old))) (hg : wr.grownBy w' (some kb)) : Cons w w' n (i + 1) im ms kb nb bn Q nd pid t8 := by
  obtain ⟨a, _, c, d, e, f⟩ := h.rows hg h.kids.type h.lkb (by decide) (by decide) (by decide)
  exact ⟨a, h.lkb, h.lnb, h.lbn, by rw [← curO_set]; exact hr, c (by decide), d, e, f, h.apart⟩

/-- A separator is appended. -/
theorem Cons.pushSep {w wr w' : World} {n ik im ms kb nb bn p c : Nat} {Q : Nat → Kid} {nd : Nat → Nat} {pid : Int} {t8 v' : Value} (h : Cons w wr n ik im ms kb nb bn Q nd pid t8) {xs : List Value} (hb : BytesAt wr wr.heap.size p (bs (Q (ms + 1)).sep)) (hs : SepsAt wr xs Q ms) (ho : wr.ownsRow w.heap.size 26 1 t8 ms xs)
    (hown : w'.ownsRow w.heap.size 26 1 v' (ms + 1) (xs ++ [.slice (some ⟨p, 0, none⟩) (bs (Q (ms + 1)).sep).length c])) (hg : wr.grownBy w' t8.ownBlock) (hv : v'.ownBlock = t8.ownBlock ∨ v'.ownBlock = some wr.heap.size) : Cons w w' n ik im (ms + 1) kb nb bn Q nd pid v' := by
  have hoth : Other wr t8.ownBlock t8.ownBlock := fun k e => ⟨26, own_type ho k e, by decide, by decide, fun _ => e.symm⟩
  have hne : ∀ k t, TypeAt wr k t → t ≠ 26 → some k ≠ t8.ownBlock := fun k t ht h26 e => TypeAt.ne ht (own_type ho k e.symm) h26 rfl
  have hxl : xs.length = ms := by simpa using ho.1
  refine ⟨h.bel.grown hg h.bel.size (fun k e => (ho.lt k e).1), h.lkb, h.lnb, h.lbn, h.kids.grown hg (hne _ _ h.kids.type (by decide)), h.nodes.grown hg (hne _ _ h.nodes.type (by decide)), h.par.grown hg (hne _ _ h.par.type (by decide)), ⟨_, hown, fun j hj => ?_⟩, fun j hj hl => ?_, h.apart⟩
  · rcases Nat.lt_or_ge j ms with a | a
    · obtain ⟨p', c', e1, e2⟩ := hs j a
      exact ⟨p', c', by rw [List.getElem?_append_left (by omega)]; exact e1, e2.grown hg hoth hg.size⟩
    · obtain rfl : j = ms := by omega
      exact ⟨p, c, by rw [List.getElem?_append_right (by omega)]; simp [hxl], hb.grown hg hoth hg.size⟩
  · obtain ⟨a, b, d⟩ := h.left j hj hl
    refine ⟨a.grown hg hoth ?_, b, d⟩
    rcases hv with e | e
    · exact .inl e
    · exact .inr ⟨_, e, Nat.le_refl _⟩

/-- A loaded kid's node is laid. -/
theorem Cons.setNode {w wr w' : World} {n ik ms kb nb bn b i : Nat} {Q : Nat → Kid} {nd : Nat → Nat} {pid : Int} {t8 : Value} (h : Cons w wr n ik i ms kb nb bn Q nd pid t8) (hl : (Q i).loaded = true) (hk : KidAtX wr (Q i) b t8.ownBlock) (hb : w.heap.size ≤ b) (hbn : b ≠ bn) (hfar : ∀ j, j < i → (Q j).loaded = true → nd j ≠ b)
    (hr : RowAt w' nb 29 ((ptrsO Q nd n i).set i (.pointer (some ⟨b, 0, none⟩)))) (hg : wr.grownBy w' (some nb)) : Cons w w' n ik (i + 1) ms kb nb bn Q (fun j => if j = i then b else nd j) pid t8 := by
  obtain ⟨a, c, _, d, e, f⟩ := h.rows hg h.nodes.type h.lnb (by decide) (by decide) (by decide)
  have ho : Other wr t8.ownBlock (some nb) := fun k' e => by cases e; exact ⟨29, h.nodes.type, by decide, by decide, fun e => absurd e (by decide)⟩
  refine ⟨a, h.lkb, h.lnb, h.lbn, c (by decide), ?_, d, e, fun j hj hjl => ?_, fun j j' hj hj' l l' hne => ?_⟩
  · rw [← ptrsO_set Q nd (fun j => if j = i then b else nd j) n i b hl (by simp) (fun j hj => by simp [show j ≠ i by omega])]
    exact hr
  · by_cases hji : j = i
    · subst hji
      simp only [if_true]
      exact ⟨hk.grown hg ho (.inl rfl), hb, hbn⟩
    · simp only [if_neg hji]
      exact f j (by omega) hjl
  · by_cases h1 : j = i
    · subst h1
      have h2 : j' ≠ j := fun e => hne e.symm
      simp only [if_true, if_neg h2]
      exact (hfar j' (by omega) l').symm
    · by_cases h2 : j' = i
      · subst h2
        simp only [if_true, if_neg h1]
        exact hfar j (by omega) l
      · simp only [if_neg h1, if_neg h2]
        exact h.apart j j' (by omega) (by omega) l l' hne

theorem Cons.skipNode {w wr : World} {n ik ms kb nb bn i : Nat} {Q : Nat → Kid} {nd : Nat → Nat} {pid : Int} {t8 : Value} (h : Cons w wr n ik i ms kb nb bn Q nd pid t8) (hl : (Q i).loaded = false) : Cons w wr n ik (i + 1) ms kb nb bn Q nd pid t8 := by
  have hlt : ∀ j, j < i + 1 → (Q j).loaded = true → j < i := fun j hj hjl => by
    by_cases h1 : j = i
    · subst h1; rw [hl] at hjl; cases hjl
    · omega
  exact ⟨h.bel, h.lkb, h.lnb, h.lbn, h.kids, by rw [← ptrsO_skip Q nd n i hl]; exact h.nodes, h.par, h.seps, fun j hj hjl => h.left j (hlt j hj hjl) hjl, fun j j' hj hj' l l' => h.apart j j' (hlt j hj l) (hlt j' hj' l') l l'⟩

end Go.Proofs.YbulkciosFmt
