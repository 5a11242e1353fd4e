/-
  The kids of a branch: what lies at each, and what 'write' makes of them.
-/
import Derived.Test.YbulkciosFmtSizeB
namespace Go.Proofs.YbulkciosFmt
open Go.RowKit Go.Extern.Stop Go.Stop Go.Extern

/-- A drawn kid. -/
structure Kid where
  loaded : Bool
  dirty : Bool
  old : Int
  k : ByteArray
  v : ByteArray
  sep : ByteArray

def Kid.hot (q : Kid) : Bool := q.loaded && q.dirty
def Kid.sz (q : Kid) : Nat := 8 + q.k.size + q.v.size
def Kid.page (q : Kid) : List Int := lbytes (fun _ => bs q.k) (fun _ => bs q.v) 1 1

/-- Which kids are written: the running number, the numbers, the pages, the freed numbers, how many. -/
def nxt (Q : Nat → Kid) (base : Int) : Nat → Int
  | 0 => base
  | i + 1 => if (Q i).hot then inc (nxt Q base i) else nxt Q base i
def idsTo (Q : Nat → Kid) (base : Int) : Nat → List Int
  | 0 => []
  | i + 1 => if (Q i).hot then idsTo Q base i ++ [inc (nxt Q base i)] else idsTo Q base i
def pgsTo (Q : Nat → Kid) : Nat → List (List Int)
  | 0 => []
  | i + 1 => if (Q i).hot then pgsTo Q i ++ [(Q i).page] else pgsTo Q i
def frdTo (Q : Nat → Kid) : Nat → List Int
  | 0 => []
  | i + 1 => if (Q i).hot then frdTo Q i ++ one (Q i).old else frdTo Q i
def hots (Q : Nat → Kid) : Nat → Nat
  | 0 => 0
  | i + 1 => if (Q i).hot then hots Q i + 1 else hots Q i
def expAt (Q : Nat → Kid) (base : Int) (j : Nat) : Int := if (Q j).hot then inc (nxt Q base j) else (Q j).old

theorem hots_le (Q : Nat → Kid) (i : Nat) : hots Q i ≤ i := by
  induction i with
  | zero => exact Nat.le_refl _
  | succ i ih => simp only [hots]; split <;> omega
theorem idsTo_length (Q : Nat → Kid) (base : Int) (i : Nat) : (idsTo Q base i).length = hots Q i := by
  induction i with
  | zero => rfl
  | succ i ih => simp only [idsTo, hots]; split <;> simp [ih]
theorem pgsTo_length (Q : Nat → Kid) (i : Nat) : (pgsTo Q i).length = hots Q i := by
  induction i with
  | zero => rfl
  | succ i ih => simp only [pgsTo, hots]; split <;> simp [ih]
theorem one_length (x : Int) : (one x).length ≤ 1 := by unfold one; split <;> simp
theorem frdTo_length (Q : Nat → Kid) (i : Nat) : (frdTo Q i).length ≤ i := by
  induction i with
  | zero => exact Nat.le_refl _
  | succ i ih =>
    simp only [frdTo]
    split
    · have := one_length (Q i).old
      simp; omega
    · omega

/-- The kids so far fit their pages. -/
def fitsTo (Q : Nat → Kid) (i : Nat) : Prop := ∀ j, j < i → (Q j).hot = true → (Q j).sz ≤ 4092

theorem first_bad (Q : Nat → Kid) (n : Nat) (h : ¬ fitsTo Q n) : ∃ i, i < n ∧ fitsTo Q i ∧ (Q i).hot = true ∧ 4092 < (Q i).sz := by
  induction n with
  | zero => exact absurd (fun j hj => absurd hj (by omega)) h
  | succ n ih =>
    by_cases hn : fitsTo Q n
    · refine ⟨n, by omega, hn, ?_⟩
      by_cases hh : (Q n).hot = true
      · refine ⟨hh, ?_⟩
        rcases Nat.lt_or_ge 4092 (Q n).sz with a | a
        · exact a
        · exfalso
          apply h
          intro j hj hot
          rcases Nat.lt_or_ge j n with b | b
          · exact hn j b hot
          · obtain rfl : j = n := by omega
            exact a
      · exfalso
        apply h
        intro j hj hot
        rcases Nat.lt_or_ge j n with b | b
        · exact hn j b hot
        · obtain rfl : j = n := by omega
          exact absurd hot hh
    · obtain ⟨i, h1, h2⟩ := ih hn
      exact ⟨i, by omega, h2⟩

/-- A block of cells of a type. -/
def TypeAt (w : World) (p : Nat) (t : TypeId) : Prop := ∃ c f, w.heap[p]? = some (.cells c t f)

theorem RowAt.type {w : World} {B : Nat} {e : TypeId} {cur : List Value} (h : RowAt w B e cur) : TypeAt w B e := ⟨_, _, h⟩
theorem TypeAt.ne {w : World} {p p' : Nat} {t t' : TypeId} (h : TypeAt w p t) (h' : TypeAt w p' t') (ht : t ≠ t') : p ≠ p' := by
  rintro rfl
  obtain ⟨c, f, e⟩ := h
  obtain ⟨c', f', e'⟩ := h'
  rw [e] at e'
  cases e'
  exact ht rfl

/-- A block of bytes. -/
structure BytesAt (w : World) (b p : Nat) (ys : List Int) : Prop where
  lt : p < b
  type : TypeAt w p 5
  at_ : ∀ i y, ys[i]? = some y → w.cell? ⟨p, i, none⟩ = some (.int .u8 y)

/-- What may be turned while a kid's memory stays. -/
def Clear (w : World) (S : List Nat) (nd : Nat) : Prop := ∀ k ∈ S, k ≠ nd ∧ ∃ t, TypeAt w k t ∧ t ≠ 5 ∧ t ≠ 26

theorem BytesAt.fr {w w' : World} {b p nd : Nat} {ys : List Int} {S : List Nat} (h : BytesAt w b p ys) (hf : Fr b S w w') (hS : Clear w S nd) : BytesAt w' b p ys := by
  have hp : p ∉ S := fun e => by
    obtain ⟨_, t, ht, h5, _⟩ := hS p e
    exact TypeAt.ne h.type ht (fun e => h5 e.symm) rfl
  have e := hf.block p h.lt hp
  refine ⟨h.lt, ?_, fun i y hy => (hf.cell (a := ⟨p, i, none⟩) h.lt hp).trans (h.at_ i y hy)⟩
  obtain ⟨c, f, hc⟩ := h.type
  exact ⟨c, f, e.trans hc⟩

/-- A loaded kid's node and what it leads to. -/
def KidAt (w : World) (b : Nat) (q : Kid) (nd : Nat) : Prop := ∃ kr vr kp vp kc vc, nd < b ∧ kr < b ∧ vr < b ∧
  RowAt w nd 34 (nodeRow q.old q.dirty true (.slice (some ⟨kr, 0, none⟩) 1 1) (.slice (some ⟨vr, 0, none⟩) 1 1) (.slice none 0 0) (.slice none 0 0) q.sz) ∧
  RowAt w kr 26 [.slice (some ⟨kp, 0, none⟩) (bs q.k).length kc] ∧ RowAt w vr 26 [.slice (some ⟨vp, 0, none⟩) (bs q.v).length vc] ∧ BytesAt w b kp (bs q.k) ∧ BytesAt w b vp (bs q.v)

theorem KidAt.fr {w w' : World} {b nd : Nat} {q : Kid} {S : List Nat} (h : KidAt w b q nd) (hf : Fr b S w w') (hS : Clear w S nd) : KidAt w' b q nd := by
  obtain ⟨kr, vr, kp, vp, kc, vc, l1, l2, l3, r1, r2, r3, b1, b2⟩ := h
  have hn : nd ∉ S := fun e => (hS nd e).1 rfl
  have h26 : ∀ r, TypeAt w r 26 → r ∉ S := fun r hr e => by
    obtain ⟨_, t, ht, _, h6⟩ := hS r e
    exact TypeAt.ne hr ht (fun e => h6 e.symm) rfl
  exact ⟨kr, vr, kp, vp, kc, vc, l1, l2, l3, hf.row r1 l1 hn, hf.row r2 l2 (h26 _ r2.type), hf.row r3 l3 (h26 _ r3.type), b1.fr hf hS, b2.fr hf hS⟩

theorem one_pair (q : Kid) : lsz (fun _ => bs q.k) (fun _ => bs q.v) 1 = q.sz := by
  simp only [lsz, bs_length, Kid.sz]; omega

theorem bufs_one {w : World} {r p c : Nat} {b : Nat} {ys : List Int} (hr : RowAt w r 26 [.slice (some ⟨p, 0, none⟩) ys.length c]) (hb : BytesAt w b p ys) : Bufs w r 1 (fun _ => ys) := fun j hj => by
  obtain rfl : j = 0 := by omega
  exact ⟨p, c, hr.cell 0, hb.at_⟩

/-- The strings are as long as strings can be. -/
structure Kid.Ok (q : Kid) : Prop where
  k : q.k.size ≤ 140737488355328
  v : q.v.size ≤ 140737488355328
  s : q.sep.size ≤ 140737488355328
  old : U64 q.old

theorem kid_size {w : World} {b nd bp : Nat} {q : Kid} (h : KidAt w b q nd) (ok : q.Ok) (hp : TypeAt w bp 37) : ∀ w', Fr b [bp] w w' → Calls Ybaf.prog 11 #[.pointer (some ⟨nd, 0, none⟩)] w' fun e w'' => e = .returned (.int .i64 q.sz) ∧ ∃ m, w'' = w'.drewN m := by
  intro w' hf
  have hS : Clear w [bp] nd := fun k hk => by
    obtain rfl : k = bp := by simpa using hk
    obtain ⟨_, _, _, _, _, _, _, _, _, r1, _⟩ := h
    exact ⟨TypeAt.ne hp r1.type (by decide), 37, hp, by decide, by decide⟩
  obtain ⟨kr, vr, kp, vp, kc, vc, l1, l2, l3, r1, r2, r3, b1, b2⟩ := h.fr hf hS
  have := size11 w' nd kr vr 1 1 1 (fun _ => bs q.k) (fun _ => bs q.v) ⟨r1.cell 2, r1.cell 3, r1.cell 5, r1.cell 6⟩ (by omega) (bufs_one r2 b1) (bufs_one r3 b2) (fun j _ => by rw [bs_length]; exact ok.k) (fun j _ => by rw [bs_length]; exact ok.v)
  rw [one_pair] at this
  exact this

theorem kid_enc {w : World} {b nd bp : Nat} {q : Kid} (h : KidAt w b q nd) (hsz : q.sz ≤ 4092) (hp : TypeAt w bp 37) : ∀ w', Fr b [bp] w w' → Calls Ybaf.prog 14 #[.pointer (some ⟨nd, 0, none⟩)] w' fun e w'' => e = .returned (.slice (some ⟨w'.heap.size, 0, none⟩) 4092 4092) ∧ PRow w'' w'.heap.size q.page ∧ Below w'.heap.size w' w'' := by
  intro w' hf
  have hS : Clear w [bp] nd := fun k hk => by
    obtain rfl : k = bp := by simpa using hk
    obtain ⟨_, _, _, _, _, _, _, _, _, r1, _⟩ := h
    exact ⟨TypeAt.ne hp r1.type (by decide), 37, hp, by decide, by decide⟩
  obtain ⟨kr, vr, kp, vp, kc, vc, l1, l2, l3, r1, r2, r3, b1, b2⟩ := h.fr hf hS
  exact encode14 w' nd kr vr 1 1 1 (fun _ => bs q.k) (fun _ => bs q.v) ⟨r1.cell 2, r1.cell 3, r1.cell 5, r1.cell 6⟩ (by omega) (bufs_one r2 b1) (bufs_one r3 b2) (by rw [one_pair]; exact hsz)

/-- The page numbers of a branch while its kids are written: the first i are new. -/
def curK (Q : Nat → Kid) (base : Int) (M i : Nat) : List Value := (List.range M).map fun j => .int .u64 (if j < i then expAt Q base j else (Q j).old)

theorem curK_length (Q : Nat → Kid) (base : Int) (M i : Nat) : (curK Q base M i).length = M := by simp [curK]
theorem curK_set (Q : Nat → Kid) (base : Int) (M i : Nat) (x : Int) (hx : x = expAt Q base i) : (curK Q base M i).set i (.int .u64 x) = curK Q base M (i + 1) := by
  subst hx
  apply List.ext_getElem?
  intro j
  rw [List.getElem?_set]
  by_cases h : i = j
  · subst h
    by_cases hl : i < M
    · simp [curK, hl]
    · simp [curK, hl]
  · rw [if_neg h]
    by_cases hl : j < M
    · simp only [curK, List.getElem?_map, List.getElem?_range hl, Option.map_some]
      congr 2
      by_cases h1 : j < i
      · rw [if_pos h1, if_pos (by omega)]
      · rw [if_neg h1, if_neg (by omega)]
    · simp [curK, hl]
theorem curK_skip (Q : Nat → Kid) (base : Int) (M i : Nat) (h : expAt Q base i = (Q i).old) : curK Q base M i = curK Q base M (i + 1) := by
  unfold curK
  apply List.map_congr_left
  intro j _
  by_cases h1 : j < i
  · rw [if_pos h1, if_pos (by omega)]
  · rw [if_neg h1]
    by_cases h2 : j = i
    · subst h2
      rw [if_pos (by omega), h]
    · rw [if_neg (by omega)]

/-- The pointers to the loaded kids. -/
def ptrs (Q : Nat → Kid) (nd : Nat → Nat) (M : Nat) : List Value := (List.range M).map fun j => if (Q j).loaded then .pointer (some ⟨nd j, 0, none⟩) else .pointer none

end Go.Proofs.YbulkciosFmt
