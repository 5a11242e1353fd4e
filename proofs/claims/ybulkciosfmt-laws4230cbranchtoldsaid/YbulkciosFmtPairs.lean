/-
  Strings made to byte slices; rows of such; 'bytes.Equal' (7).
-/
import Derived.Test.YbulkciosFmtWrite
import Derived.Laws.IdiomStrings
import Derived.Laws.BytesArg
import Derived.Lib.Strings
import Derived.Lib.Slices
import Derived.Lib.Walk
import Derived.Lib.Bytes
namespace Go.Proofs.YbulkciosFmt
open Go.RowKit

/-- A string's bytes, as numbers. -/
def bs (s : ByteArray) : List Int := s.data.toList.map fun b => (b.toNat : Int)

theorem bs_length (s : ByteArray) : (bs s).length = s.size := by simp [bs]

/-- '[]byte(s)'. -/
theorem wpList_bytes {w : World} {ops : Array Oper} {rest : List Oper} {o : Oper} {a : Act} {Q : Exit → Act → World → Prop} (hgd : o.guard = none) (x : Operand) (ho : o.op = .convert 9 26 x) (s : ByteArray) (hx : a.eval x = .string s)
    (h : ∀ w' c, (∀ i y, (bs s)[i]? = some y → w'.cell? ⟨w.heap.size, i, none⟩ = some (.int .u8 y)) → w.grownBy w' none → w.heap.size < w'.heap.size → wpList Ybaf.prog ops Q rest (a.put o.dst (.slice (some ⟨w.heap.size, 0, none⟩) (bs s).length c)) w') :
    wpList Ybaf.prog ops Q (o :: rest) a w := by
  have hr := run_bytes_of_string (P := Ybaf.prog) w 9 26 5 s Ybaf.underlying9 Ybaf.underlying26 Ybaf.underlying5
  refine wpList_plain hgd fun K hK => ?_
  unfold Oper.wp execOp
  simp only [ho, hx, hr, Sem.run_bind, Sem.run_pure, Result.andThen_ok]
  rw [← bs_length]
  generalize grownCap w (bs s).length 0 5 = C
  refine hK _ _ (h _ _ ?_ ?_ ?_)
  · intro i y hy
    have e : (w.drew.alloc (Obj.cells (bytesRow s C) 5 ((bytesRow s C).size, (bytesRow s C).size + 1))).heap[w.heap.size]? = some (Obj.cells (bytesRow s C) 5 ((bytesRow s C).size, (bytesRow s C).size + 1)) := heap_alloc_new w.drew _
    unfold bs at hy
    rw [List.getElem?_map, Option.map_eq_some_iff] at hy
    obtain ⟨z, hz, rfl⟩ := hy
    have hlt : i < s.data.size := by simpa using (List.getElem?_eq_some_iff.1 hz).1
    have hz' : s.data[i] = z := by simpa using (List.getElem?_eq_some_iff.1 hz).2
    simp only [World.cell?, e]
    rw [bytesRow_at s _ i hlt, hz']
    simp
  · have h0 : w.grownBy w.drew none := ⟨rfl, rfl, rfl, Nat.le_refl _, fun _ _ _ => rfl⟩
    exact grown_two h0 (grown_alloc w.drew _) (.inl rfl) (.inl rfl)
  · simp

/-- A row of n byte slices, each at a block from lo up to hi. -/
def BufsIn (lo hi : Nat) (w : World) (B n : Nat) (K : Nat → List Int) : Prop :=
  ∀ j, j < n → ∃ p c, lo ≤ p ∧ p < hi ∧ w.cell? ⟨B, j, none⟩ = some (.slice (some ⟨p, 0, none⟩) (K j).length c) ∧ ∀ i y, (K j)[i]? = some y → w.cell? ⟨p, i, none⟩ = some (.int .u8 y)

theorem BufsIn.bufs {lo hi : Nat} {w : World} {B n : Nat} {K : Nat → List Int} (h : BufsIn lo hi w B n K) : Bufs w B n K := fun j hj => by
  obtain ⟨p, c, _, _, h1, h2⟩ := h j hj
  exact ⟨p, c, h1, h2⟩

theorem BufsIn.grown {lo hi hi' : Nat} {w w' : World} {B n : Nat} {K : Nat → List Int} {r : Option Nat} (h : BufsIn lo hi w B n K) (hg : w.grownBy w' r) (h1 : some B ≠ r) (h2 : ∀ k, r = some k → k < lo ∨ hi ≤ k) (h3 : hi ≤ hi') : BufsIn lo hi' w' B n K := fun j hj => by
  obtain ⟨p, c, l1, l2, c1, c2⟩ := h j hj
  exact ⟨p, c, l1, Nat.lt_of_lt_of_le l2 h3, hg.cell c1 h1, fun i y hy => hg.cell (c2 i y hy) (fun e => by rcases h2 p e.symm with a | a <;> omega)⟩

theorem BufsIn.push {lo hi : Nat} {w w' : World} {B k p c : Nat} {K : Nat → List Int} {cur : List Value} (h : BufsIn lo hi w B k K) (hB : B < lo) (hk : k < cur.length) (hg : w.grownBy w' (some B))
    (r : RowAt w B 26 cur) (r' : RowAt w' B 26 (cur.set k (.slice (some ⟨p, 0, none⟩) (K k).length c))) (hlo : lo ≤ p) (hhi : p < hi) (hb : ∀ i y, (K k)[i]? = some y → w.cell? ⟨p, i, none⟩ = some (.int .u8 y)) : BufsIn lo hi w' B (k + 1) K := fun j hj => by
  rcases Nat.lt_or_ge j k with hlt | hge
  · obtain ⟨q, d, l1, l2, c1, c2⟩ := h j hlt
    refine ⟨q, d, l1, l2, ?_, fun i y hy => hg.cell (c2 i y hy) (fun e => by simp at e; omega)⟩
    rw [r'.cell, List.getElem?_set_ne (by omega), ← r.cell]
    exact c1
  · obtain rfl : j = k := by omega
    refine ⟨p, c, hlo, hhi, ?_, fun i y hy => hg.cell (hb i y hy) (fun e => by simp at e; omega)⟩
    rw [r'.cell, List.getElem?_set_self hk]

theorem BufsIn.fr {lo hi b : Nat} {S : List Nat} {w w' : World} {B n : Nat} {K : Nat → List Int} (h : BufsIn lo hi w B n K) (hf : Fr b S w w') (hb : hi ≤ b) (hB : B < b) (hB' : B ∉ S) (hS : ∀ k ∈ S, hi ≤ k) : BufsIn lo hi w' B n K := fun j hj => by
  obtain ⟨p, c, l1, l2, c1, c2⟩ := h j hj
  exact ⟨p, c, l1, l2, (hf.cell (a := ⟨B, j, none⟩) hB hB').trans c1, fun i y hy => (hf.cell (a := ⟨p, i, none⟩) (show p < b by omega) (fun e => by have := hS p e; omega)).trans (c2 i y hy)⟩

set_option maxHeartbeats 1000000 in
theorem equal7 (v1 v2 : Value) (xs ys : List Int) (w : World)
    (h1 : (convert 26 9 v1).run Ybaf.prog w = .ok (.string (strOfNums xs)) w) (h2 : (convert 26 9 v2).run Ybaf.prog w = .ok (.string (strOfNums ys)) w) :
    Calls Ybaf.prog 7 #[v1, v2] w fun e w' => e = .returned (.bool (Lib.bytesOf xs == Lib.bytesOf ys)) ∧ w' = w := by
  rw [← Lib.strOfNums_toList, ← Lib.strOfNums_toList]
  go_enter Ybaf.func7, Ybaf.ntmps7
  go_wp2
  go_ret
  exact ⟨rfl, rfl⟩

theorem page_conv {w : World} {g : Nat} {xs : List Int} (h : PRow w g xs) : (convert 26 9 (.slice (some ⟨g, 0, none⟩) 4092 4092)).run Ybaf.prog w = .ok (.string (strOfNums (xs ++ List.replicate (4092 - xs.length) 0))) w := by
  have hl : (xs ++ List.replicate (4092 - xs.length) (0 : Int)).length = 4092 := by simp; have := h.len; omega
  refine run_convert_bytes_arg (P := Ybaf.prog) w 26 5 Ybaf.underlying26 Ybaf.underlying5 g 0 4092 4092 _ hl (fun i hi => ?_) 9 Ybaf.underlying9
  have hr := h.row.cell (0 + i)
  rw [hr]
  unfold pageCells
  rw [Nat.zero_add, List.getElem?_map, List.getD_eq_getElem?_getD, List.getElem?_eq_getElem (by omega)]
  rfl

/-- Two pages of one content are equal. -/
theorem equal_pages (w : World) (g g' : Nat) (xs : List Int) (h : PRow w g xs) (h' : PRow w g' xs) :
    Calls Ybaf.prog 7 #[.slice (some ⟨g, 0, none⟩) 4092 4092, .slice (some ⟨g', 0, none⟩) 4092 4092] w fun e w' => e = .returned (.bool true) ∧ w' = w :=
  (equal7 _ _ _ _ w (page_conv h) (page_conv h')).mono fun e w' ⟨h1, h2⟩ => ⟨by simpa using h1, h2⟩

end Go.Proofs.YbulkciosFmt
