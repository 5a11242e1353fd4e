/-
  A page as a row of 4092 bytes that is known whole, and the laws that fill it.
-/
import Derived.Test.YbulkciosFmtSmall
import Derived.Laws.CopyRow
namespace Go.Proofs.YbulkciosFmt
open Go.RowKit

/-- A row that is known whole. -/
def RowAt (w : World) (B : Nat) (e : TypeId) (cur : List Value) : Prop := w.heap[B]? = some (.cells cur.toArray e (0, 0))

theorem RowAt.lt {w : World} {B : Nat} {e : TypeId} {cur : List Value} (h : RowAt w B e cur) : B < w.heap.size := by
  rcases Nat.lt_or_ge B w.heap.size with h1 | h1
  · exact h1
  · have := h
    unfold RowAt at this
    rw [Array.getElem?_eq_none h1] at this
    cases this

theorem RowAt.cell {w : World} {B : Nat} {e : TypeId} {cur : List Value} (h : RowAt w B e cur) (j : Nat) : w.cell? ⟨B, j, none⟩ = cur[j]? := by
  unfold RowAt at h
  simp [World.cell?, h]

theorem RowAt.grown {w w' : World} {B : Nat} {e : TypeId} {cur : List Value} {r : Option Nat} (h : RowAt w B e cur) (hg : w.grownBy w' r) (hr : some B ≠ r) : RowAt w' B e cur := (hg.block B h.lt hr).trans h

theorem RowAt.below {w w' : World} {B N : Nat} {e : TypeId} {cur : List Value} (h : RowAt w B e cur) (hb : Below N w w') (hN : B < N) : RowAt w' B e cur := (hb.block B hN).trans h

theorem RowAt.ne {w : World} {B B' : Nat} {e e' : TypeId} {cur cur' : List Value} (h : RowAt w B e cur) (h' : RowAt w B' e' cur') (he : e ≠ e') : B ≠ B' := by
  rintro rfl
  unfold RowAt at h h'
  rw [h] at h'
  cases h'
  exact he rfl

/-- The cells of a page of which the first bytes are known; the others are zero. -/
def pageCells (xs : List Int) : List Value := (xs ++ List.replicate (4092 - xs.length) 0).map (.int .u8)

theorem pageCells_length (xs : List Int) (h : xs.length ≤ 4092) : (pageCells xs).length = 4092 := by simp [pageCells]; omega

theorem pageCells_zero (xs : List Int) (h : xs.length < 4092) : pageCells (xs ++ [0]) = pageCells xs := by
  unfold pageCells
  rw [List.append_assoc, show ([0] : List Int) = List.replicate 1 0 from rfl, List.replicate_append_replicate, List.length_append, List.length_replicate, show 1 + (4092 - (xs.length + 1)) = 4092 - xs.length by omega]

theorem pageCells_splice (xs ys : List Int) (h : xs.length + ys.length ≤ 4092) : splice (pageCells xs) xs.length (ys.map (.int .u8)) = pageCells (xs ++ ys) := by
  unfold splice pageCells
  rw [List.length_map, List.length_append, ← List.map_take, ← List.map_drop, ← List.map_append, ← List.map_append]
  congr 1
  rw [List.take_left' rfl, List.drop_append, List.drop_eq_nil_of_le (by omega), List.drop_replicate, List.nil_append, List.append_assoc]
  congr 3
  omega

/-- A page. -/
structure PRow (w : World) (g : Nat) (xs : List Int) : Prop where
  row : RowAt w g 5 (pageCells xs)
  len : xs.length ≤ 4092

theorem PRow.grown {w w' : World} {g : Nat} {xs : List Int} {r : Option Nat} (h : PRow w g xs) (hg : w.grownBy w' r) (hr : some g ≠ r) : PRow w' g xs := ⟨h.row.grown hg hr, h.len⟩
theorem PRow.below {w w' : World} {g N : Nat} {xs : List Int} (h : PRow w g xs) (hb : Below N w w') (hN : g < N) : PRow w' g xs := ⟨h.row.below hb hN, h.len⟩

theorem PRow.zero {w : World} {g : Nat} {xs : List Int} (h : PRow w g xs) (hl : xs.length < 4092) : PRow w g (xs ++ [0]) := ⟨by rw [pageCells_zero xs hl]; exact h.row, by simp; omega⟩

theorem setRow_grown (w : World) (g : Nat) (cs : Array Value) : w.grownBy (w.setRow g cs) (some g) :=
  ⟨rfl, rfl, rfl, by simp [World.setRow], fun k _ hk => setRow_other w g k _ (fun e => hk (by rw [e]))⟩

theorem Ybaf.info5 : (Ybaf.prog.info? 5).map (fun i => (i.zero, i.size, i.bytes)) = some (some (.int .u8 0), 1, 1) := by kernel_rfl
theorem Ybaf.info26 : (Ybaf.prog.info? 26).map (fun i => (i.zero, i.size, i.bytes)) = some (some (.slice none 0 0), 1, 24) := by kernel_rfl
theorem Ybaf.info23 : (Ybaf.prog.info? 23).map (fun i => (i.zero, i.size, i.bytes)) = some (some (.int .u64 0), 1, 8) := by kernel_rfl

/-- 'append' onto a page in which there is room. -/
theorem wpList_append_page {w : World} {ops : Array Oper} {rest : List Oper} {o : Oper} {a : Act} {Q : Exit → Act → World → Prop} (hgd : o.guard = none) (s x : Operand)
    (ho : o.op = .call { callee := .builtin .append, args := #[s, x], argTypes := #[26, 26] })
    (g : Nat) (xs : List Int) (n : Nat) (hn : n = xs.length) (hp : PRow w g xs) (hs : a.eval s = .slice (some ⟨g, 0, none⟩) n 4092)
    (ad : Addr) (ys : List Int) (m c : Nat) (hm : m = ys.length) (hx : a.eval x = .slice (some ad) m c) (hnews : ∀ j y, ys[j]? = some y → w.cell? (ad.add j) = some (.int .u8 y)) (hroom : n + m ≤ 4092)
    (h : ∀ w', PRow w' g (xs ++ ys) → w.grownBy w' (some g) → wpList Ybaf.prog ops Q rest (a.put o.dst (.slice (some ⟨g, 0, none⟩) (n + m) 4092)) w') :
    wpList Ybaf.prog ops Q (o :: rest) a w := by
  obtain ⟨i0, hi, hz0, hz1, hz2⟩ := info_parts Ybaf.info5
  subst hn hm
  have hl := pageCells_length xs hp.len
  have hr := run_append_room (P := Ybaf.prog) w 26 o.type 5 i0 Ybaf.underlying26 hi g xs.length 4092 _ hp.row ad ys.length c (ys.map (.int .u8)) (by rw [hz1]; simp)
    (fun j u hu => by
      rw [List.getElem?_map, Option.map_eq_some_iff] at hu
      obtain ⟨y, hy, rfl⟩ := hu
      exact hnews j y hy)
    (by simp [Value.oneCell']) hroom (by rw [hz1]; simp [hl]; omega)
  refine wpList_plain hgd fun K hK => ?_
  unfold Oper.wp execOp
  simp only [ho, resolve, invoke, builtin, Sem.run_bind, Sem.run_pure, Result.andThen_ok, List.map_toArray, List.map_cons, List.map_nil, hs, hx, hr]
  refine hK _ _ (h _ ⟨?_, by simp; exact hroom⟩ (setRow_grown _ _ _))
  unfold RowAt
  rw [setRow_heap w g _ _ 5 (0, 0) hp.row, ← pageCells_splice xs ys hroom, hz1]
  simp [splice]

theorem pageCells_set (xs : List Int) (j : Nat) (v : Int) (h : j < xs.length) : (pageCells xs).set j (.int .u8 v) = pageCells (xs.set j v) := by
  unfold pageCells
  rw [List.length_set, ← List.map_set, List.set_append_left _ _ h]

theorem splice_one {α : Type} (L : List α) (j : Nat) (v : α) (h : j < L.length) : splice L j [v] = L.set j v := by
  unfold splice
  rw [List.set_eq_take_append_cons_drop, if_pos h]
  simp

/-- A store into a page. -/
theorem wpList_store_page {w : World} {ops : Array Oper} {rest : List Oper} {o : Oper} {a : Act} {Q : Exit → Act → World → Prop} (hgd : o.guard = none) (x y : Operand) (ho : o.op = .store 5 x y)
    (hd : o.dst = none) (g off : Nat) (v : Int) (hx : a.eval x = .pointer (some ⟨g, off, none⟩)) (hy : a.eval y = .int .u8 v) (xs : List Int) (hp : PRow w g xs) (hoff : off < 4092)
    (h : ∀ w', RowAt w' g 5 (splice (pageCells xs) off [.int .u8 v]) → w.grownBy w' (some g) → wpList Ybaf.prog ops Q rest a w') : wpList Ybaf.prog ops Q (o :: rest) a w := by
  obtain ⟨i0, hi, hz0, hz1, hz2⟩ := info_parts Ybaf.info5
  have hl := pageCells_length xs hp.len
  have hrun := run_storeCells_at (P := Ybaf.prog) g off 5 [.int .u8 v] 0 _ w hp.row (by simp [hl]; omega) (by simp [Value.oneCell'])
  refine wpList_plain hgd fun K hK => ?_
  unfold Oper.wp execOp
  simp [ho, hx, hy, Instr.storeAt, Instr.sureAddr, storeVar, sizeOf, typeInfo, hi, hz1, Value.cells, hrun]
  have hh := h (w.setRow g (splice (pageCells xs) off [.int .u8 v]).toArray) (setRow_heap w g _ _ 5 _ hp.row) (setRow_grown _ _ _)
  have e : splice (pageCells xs) off [.int .u8 v] = List.take off (pageCells xs) ++ (.int .u8 v :: List.drop (off + 1) (pageCells xs)) := by simp [splice]
  rw [← e]
  show K (a.put o.dst undef) _
  rw [hd]
  exact hK _ _ hh

/-- .. at its known end. -/
theorem wpList_store_page_end {w : World} {ops : Array Oper} {rest : List Oper} {o : Oper} {a : Act} {Q : Exit → Act → World → Prop} (hgd : o.guard = none) (x y : Operand) (ho : o.op = .store 5 x y)
    (hd : o.dst = none) (g off : Nat) (v : Int) (hx : a.eval x = .pointer (some ⟨g, off, none⟩)) (hy : a.eval y = .int .u8 v) (xs : List Int) (hp : PRow w g xs) (hoff : off < 4092) (hl : off = xs.length)
    (h : ∀ w', PRow w' g (xs ++ [v]) → w.grownBy w' (some g) → wpList Ybaf.prog ops Q rest a w') : wpList Ybaf.prog ops Q (o :: rest) a w :=
  wpList_store_page hgd x y ho hd g off v hx hy xs hp hoff fun w' hr hg => h w' ⟨by rw [← pageCells_splice xs [v] (by simp; omega), ← hl]; exact hr, by simp; omega⟩ hg

/-- .. ahead of its known end. -/
theorem wpList_store_page_in {w : World} {ops : Array Oper} {rest : List Oper} {o : Oper} {a : Act} {Q : Exit → Act → World → Prop} (hgd : o.guard = none) (x y : Operand) (ho : o.op = .store 5 x y)
    (hd : o.dst = none) (g off : Nat) (v : Int) (hx : a.eval x = .pointer (some ⟨g, off, none⟩)) (hy : a.eval y = .int .u8 v) (xs : List Int) (hp : PRow w g xs) (hl : off < xs.length)
    (h : ∀ w', PRow w' g (xs.set off v) → w.grownBy w' (some g) → wpList Ybaf.prog ops Q rest a w') : wpList Ybaf.prog ops Q (o :: rest) a w :=
  wpList_store_page hgd x y ho hd g off v hx hy xs hp (by have := hp.len; omega) fun w' hr hg => h w' ⟨by rw [← pageCells_set xs off v hl, ← splice_one _ _ _ (by rw [pageCells_length xs hp.len]; have := hp.len; omega)]; exact hr, by simp; exact hp.len⟩ hg

theorem made_bytes (N : Nat) : madeCells #[.int .u8 0] N = (List.replicate N (Value.int .u8 0)).toArray := by
  apply Array.ext
  · simp [madeCells]
  · intro i h1 h2
    simp [madeCells, Nat.mod_one]

theorem page_none (N : Nat) (hN : N = 4092) : pageCells [] = List.replicate N (Value.int .u8 0) := by
  unfold pageCells
  rw [List.nil_append, List.map_replicate, List.length_nil, Nat.sub_zero, hN]

/-- 'make' of a page. -/
theorem wpList_make_page {w : World} {ops : Array Oper} {rest : List Oper} {o : Oper} {a : Act} {Q : Exit → Act → World → Prop}
    (hg : o.guard = none) (l c : Operand) (hop : o.op = Op.makeSlice 26 l c) (n : Nat) (hn : n ≤ 4092) (hl : a.eval l = .int .i64 n) (hc : a.eval c = .int .i64 4092)
    (hK : ∀ w', PRow w' w.heap.size [] → w.grownBy w' none → wpList Ybaf.prog ops Q rest (a.put o.dst (.slice (some ⟨w.heap.size, 0, none⟩) n 4092)) w') :
    wpList Ybaf.prog ops Q (o :: rest) a w := by
  obtain ⟨i0, hi, hz0, hz1, hz2⟩ := info_parts Ybaf.info5
  obtain ⟨N, hN⟩ : ∃ N : Nat, N = 4092 := ⟨_, rfl⟩
  have hr := run_make (P := Ybaf.prog) w 26 5 i0 (.int .u8 0) Ybaf.underlying26 hi hz0 .i64 .i64 n N (by omega) (by omega) (by rw [hz2]; omega) (by omega)
  rw [show ((4092 : Int)) = ((N : Nat) : Int) by omega] at hc
  refine wpList_plain hg fun K hK' => ?_
  unfold Oper.wp
  simp [execOp, hop, hl, hc, hr, Result.andThen]
  rw [show N = 4092 from hN]
  refine hK' _ _ (hK _ ⟨?_, by simp⟩ ⟨rfl, rfl, rfl, by simp, fun k hk _ => Below.heap_alloc _ _ _ hk⟩)
  unfold RowAt
  rw [heap_alloc_new, page_none N hN, hz1, Nat.mul_one, show (Value.int .u8 0).cells = #[.int .u8 0] from rfl, ← made_bytes, hN]

end Go.Proofs.YbulkciosFmt
