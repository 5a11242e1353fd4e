/-
  'write' (6) of a branch: its loaded kids first.
-/
import Derived.Test.YbulkciosFmtKids
namespace Go.Proofs.YbulkciosFmt
open Go.RowKit Go.Extern.Stop Go.Stop Go.Extern

/-- Below b, what lies below B0 and what is of another type than these four is as it was. -/
structure Ft (B0 b : Nat) (w w' : World) : Prop where
  os : w'.os = w.os
  tape : w'.tape = w.tape
  output : w'.output = w.output
  size : w.heap.size ≤ w'.heap.size
  block : ∀ k, k < b → (k < B0 ∨ ∃ t, TypeAt w k t ∧ t ≠ 23 ∧ t ≠ 34 ∧ t ≠ 37 ∧ t ≠ 48) → w'.heap[k]? = w.heap[k]?

theorem Ft.refl (B0 b : Nat) (w : World) : Ft B0 b w w := ⟨rfl, rfl, rfl, Nat.le_refl _, fun _ _ _ => rfl⟩
theorem Ft.trans {B0 b : Nat} {u v w : World} (h : Ft B0 b u v) (k : Ft B0 b v w) : Ft B0 b u w :=
  ⟨k.os.trans h.os, k.tape.trans h.tape, k.output.trans h.output, Nat.le_trans h.size k.size, fun i hi hs => by
    have e := h.block i hi hs
    refine (k.block i hi ?_).trans e
    rcases hs with a | ⟨t, ⟨c, f, ht⟩, n⟩
    · exact .inl a
    · exact .inr ⟨t, ⟨c, f, e.trans ht⟩, n⟩⟩
theorem Ft.of_fr {B0 b : Nat} {S : List Nat} {u v : World} (h : Fr b S u v) (hS : ∀ k ∈ S, B0 ≤ k ∧ ∃ t, TypeAt u k t ∧ (t = 23 ∨ t = 34 ∨ t = 37 ∨ t = 48)) : Ft B0 b u v :=
  ⟨h.os, h.tape, h.output, h.size, fun k hk hc => h.block k hk fun hmem => by
    obtain ⟨l, t, ht, ho⟩ := hS k hmem
    rcases hc with a | ⟨t', ht', n1, n2, n3, n4⟩
    · omega
    · refine TypeAt.ne ht ht' ?_ rfl
      rcases ho with rfl | rfl | rfl | rfl
      · exact fun e => n1 e.symm
      · exact fun e => n2 e.symm
      · exact fun e => n3 e.symm
      · exact fun e => n4 e.symm⟩
theorem Ft.row {B0 b : Nat} {u v : World} (h : Ft B0 b u v) {B : Nat} {e : TypeId} {cur : List Value} (hr : RowAt u B e cur) (hB : B < b) (h1 : e ≠ 23) (h2 : e ≠ 34) (h3 : e ≠ 37) (h4 : e ≠ 48) : RowAt v B e cur :=
  (h.block B hB (.inr ⟨e, hr.type, h1, h2, h3, h4⟩)).trans hr

/-- The state, the pages by what they hold. -/
def WEnd (w : World) (b bp bt : Nat) (next : Int) (allocs : Nat) (ids : List Int) (pgs : List (List Int)) (freed : List Int) : Prop :=
  ∃ pages vi vb vf, St w b bp bt next false false allocs ids pages freed vi vb vf ∧ pages.map (·.2) = pgs

/-- While the kids are written. -/
structure WInv (B0 : Nat) (w wr : World) (b bp bt bn kb nb : Nat) (row : List Value) (Q : Nat → Kid) (base : Int) (nd : Nat → Nat) (M i : Nat) : Prop where
  st : WEnd wr b bp bt (nxt Q base i) (hots Q i) (idsTo Q base i) (pgsTo Q i) (frdTo Q i)
  par : RowAt wr bn 34 row
  kids : RowAt wr kb 23 (curK Q base M i)
  nodes : RowAt wr nb 29 (ptrs Q nd M)
  left : ∀ j, i ≤ j → j < M → (Q j).loaded = true → KidAt wr b (Q j) (nd j)
  ft : Ft B0 b w wr
  fits : fitsTo Q i

/-- Where all lies. -/
structure Places (B0 b bp bt bn kb nb : Nat) (nd : Nat → Nat) (Q : Nat → Kid) (M : Nat) : Prop where
  hbn : bn < b
  hkb : kb < b
  hnb : nb < b
  lbn : B0 ≤ bn
  lkb : B0 ≤ kb
  lbp : B0 ≤ bp
  lbt : B0 ≤ bt
  lnd : ∀ j, j < M → (Q j).loaded = true → B0 ≤ nd j ∧ nd j ≠ bn
  apart : ∀ j j', j < M → j' < M → (Q j).loaded = true → (Q j').loaded = true → j ≠ j' → nd j ≠ nd j'

theorem WEnd.st_drop {w : World} {b bp bt : Nat} {next : Int} {allocs : Nat} {ids : List Int} {pgs : List (List Int)} {freed : List Int} (h : WEnd w b bp bt next allocs ids pgs freed) : TypeAt w bp 37 ∧ TypeAt w bt 48 ∧ bp < b ∧ bt < b ∧ b ≤ w.heap.size := by
  obtain ⟨pages, vi, vb, vf, hs, _⟩ := h
  exact ⟨hs.pg.type, hs.tr.type, hs.bp, hs.bt, hs.rows.b⟩

theorem KidAt.type {w : World} {b nd : Nat} {q : Kid} (h : KidAt w b q nd) : TypeAt w nd 34 ∧ nd < b := by
  obtain ⟨_, _, _, _, _, _, l1, _, _, r1, _⟩ := h
  exact ⟨r1.type, l1⟩

/-- A step of the loop: of the rows below b only bp, bt and the kid's node have turned. -/
theorem WInv.kid {B0 : Nat} {w wr w' : World} {b bp bt bn kb nb : Nat} {row : List Value} {Q : Nat → Kid} {base : Int} {nd : Nat → Nat} {M i : Nat} (h : WInv B0 w wr b bp bt bn kb nb row Q base nd M i) (P : Places B0 b bp bt bn kb nb nd Q M) (hi : i < M) (hl : (Q i).loaded = true)
    (hf : Fr b [bp, bt, nd i] wr w') : RowAt w' bn 34 row ∧ RowAt w' kb 23 (curK Q base M i) ∧ RowAt w' nb 29 (ptrs Q nd M) ∧ (∀ j, i + 1 ≤ j → j < M → (Q j).loaded = true → KidAt w' b (Q j) (nd j)) ∧ Ft B0 b w w' := by
  obtain ⟨t1, t2, _, _, _⟩ := h.st.st_drop
  obtain ⟨t3, l3⟩ := (h.left i (Nat.le_refl _) hi hl).type
  have n1 : bn ∉ [bp, bt, nd i] := by
    simp only [List.mem_cons, List.not_mem_nil, or_false, not_or]
    exact ⟨TypeAt.ne h.par.type t1 (by decide), TypeAt.ne h.par.type t2 (by decide), (P.lnd i hi hl).2.symm⟩
  have n2 : kb ∉ [bp, bt, nd i] := by
    simp only [List.mem_cons, List.not_mem_nil, or_false, not_or]
    exact ⟨TypeAt.ne h.kids.type t1 (by decide), TypeAt.ne h.kids.type t2 (by decide), TypeAt.ne h.kids.type t3 (by decide)⟩
  have n3 : nb ∉ [bp, bt, nd i] := by
    simp only [List.mem_cons, List.not_mem_nil, or_false, not_or]
    exact ⟨TypeAt.ne h.nodes.type t1 (by decide), TypeAt.ne h.nodes.type t2 (by decide), TypeAt.ne h.nodes.type t3 (by decide)⟩
  refine ⟨hf.row h.par P.hbn n1, hf.row h.kids P.hkb n2, hf.row h.nodes P.hnb n3, fun j hj hjM hjl => ?_, h.ft.trans (Ft.of_fr hf ?_)⟩
  · refine (h.left j (by omega) hjM hjl).fr hf fun k hk => ?_
    have t4 := (h.left j (by omega) hjM hjl).type.1
    simp only [List.mem_cons, List.not_mem_nil, or_false] at hk
    rcases hk with rfl | rfl | rfl
    · exact ⟨TypeAt.ne t1 t4 (by decide), 37, t1, by decide, by decide⟩
    · exact ⟨TypeAt.ne t2 t4 (by decide), 48, t2, by decide, by decide⟩
    · exact ⟨P.apart i j hi hjM hl hjl (by omega), 34, t3, by decide, by decide⟩
  · intro k hk
    simp only [List.mem_cons, List.not_mem_nil, or_false] at hk
    rcases hk with rfl | rfl | rfl
    · exact ⟨P.lbp, 37, t1, by simp⟩
    · exact ⟨P.lbt, 48, t2, by simp⟩
    · exact ⟨(P.lnd i hi hl).1, 34, t3, by simp⟩

/-- .. and the branch's number for the kid has been stored. -/
theorem WInv.next {B0 : Nat} {w w1 w2 : World} {b bp bt bn kb nb : Nat} {row : List Value} {Q : Nat → Kid} {base : Int} {nd : Nat → Nat} {M i : Nat} (P : Places B0 b bp bt bn kb nb nd Q M)
    (hst : WEnd w1 b bp bt (nxt Q base (i + 1)) (hots Q (i + 1)) (idsTo Q base (i + 1)) (pgsTo Q (i + 1)) (frdTo Q (i + 1))) (hp : RowAt w1 bn 34 row) (hk : RowAt w1 kb 23 (curK Q base M i)) (hn : RowAt w1 nb 29 (ptrs Q nd M))
    (hl : ∀ j, i + 1 ≤ j → j < M → (Q j).loaded = true → KidAt w1 b (Q j) (nd j)) (hft : Ft B0 b w w1) (hfi : fitsTo Q (i + 1)) (hk2 : RowAt w2 kb 23 (curK Q base M (i + 1))) (hg : w1.grownBy w2 (some kb)) : WInv B0 w w2 b bp bt bn kb nb row Q base nd M (i + 1) := by
  obtain ⟨t1, t2, l1, l2, hb⟩ := hst.st_drop
  have hf : Fr b [kb] w1 w2 := (Fr.refl _ _ _).grown hg hb (fun k hk => by cases hk; exact .inr (by simp))
  refine ⟨?_, hf.row hp P.hbn (by simpa using TypeAt.ne hp.type hk.type (by decide)), hk2, hf.row hn P.hnb (by simpa using TypeAt.ne hn.type hk.type (by decide)), fun j h1 h2 h3 => (hl j h1 h2 h3).fr hf fun k hkk => ?_, hft.trans (Ft.of_fr hf fun k hkk => ?_), hfi⟩
  · obtain ⟨pages, vi, vb, vf, hs, hm⟩ := hst
    refine ⟨pages, vi, vb, vf, ⟨hs.pg.grown hg ?_, hs.tr.grown hg ?_, hs.rows.low hg P.hkb, hs.bp, hs.bt⟩, hm⟩
    · exact fun e => by cases e; exact TypeAt.ne t1 hk.type (by decide) rfl
    · exact fun e => by cases e; exact TypeAt.ne t2 hk.type (by decide) rfl
  · obtain rfl : k = kb := by simpa using hkk
    exact ⟨TypeAt.ne hk.type (hl j h1 h2 h3).type.1 (by decide), 23, hk.type, by decide, by decide⟩
  · obtain rfl : k = kb := by simpa using hkk
    exact ⟨P.lkb, 23, hk.type, by simp⟩

end Go.Proofs.YbulkciosFmt
