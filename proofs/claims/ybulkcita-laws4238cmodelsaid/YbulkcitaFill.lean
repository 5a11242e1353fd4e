/-
  'LawS4238CModel' (3): the rows that it fills.
-/
import Derived.Test.YbulkcitaSmall
import Derived.Deep.CutBlock
import Derived.Laws.CopyRow
import Derived.Laws.CopyOwn
namespace Go.Proofs.Ybulkcita
open Go.RowKit

/-- A drawn gate. -/
structure Gate where
  k : Nat
  a : Nat
  b : Nat
  c : Nat
  v : Int

structure Gate.fits (g : Gate) : Prop where
  k : g.k < 256
  a : g.a < 4294967296
  b : g.b < 4294967296
  c : g.c < 4294967296

/-- The gates that came in. -/
structure GatesAt (w : World) (p off n : Nat) (G : Nat → Gate) : Prop where
  lt : p < w.heap.size
  gk : ∀ i, i < n → w.cell? ⟨p, off + i * 5, none⟩ = some (.int .u8 (G i).k)
  ga : ∀ i, i < n → w.cell? ⟨p, off + i * 5 + 1, none⟩ = some (.int .u32 (G i).a)
  gb : ∀ i, i < n → w.cell? ⟨p, off + i * 5 + 2, none⟩ = some (.int .u32 (G i).b)
  gc : ∀ i, i < n → w.cell? ⟨p, off + i * 5 + 3, none⟩ = some (.int .u32 (G i).c)
  gv : ∀ i, i < n → w.cell? ⟨p, off + i * 5 + 4, none⟩ = some (.int .i8 (G i).v)
  fits : ∀ i, i < n → (G i).fits

theorem GatesAt.below {w w' : World} {p off n : Nat} {G : Nat → Gate} (h : GatesAt w p off n G) (hb : Below w.heap.size w w') : GatesAt w' p off n G :=
  ⟨Nat.lt_of_lt_of_le h.lt hb.size, fun i hi => cell_stays hb (h.gk i hi) (Nat.le_refl _), fun i hi => cell_stays hb (h.ga i hi) (Nat.le_refl _), fun i hi => cell_stays hb (h.gb i hi) (Nat.le_refl _),
    fun i hi => cell_stays hb (h.gc i hi) (Nat.le_refl _), fun i hi => cell_stays hb (h.gv i hi) (Nat.le_refl _), h.fits⟩

/-- A row that the call made: its cells. -/
def RowAt (w : World) (B : Nat) (e : TypeId) (sz : Nat) (cur : Array Value) : Prop := w.heap[B]? = some (.cells cur e (0, 0)) ∧ cur.size = sz

theorem row_made {w : World} {b0 B n sz : Nat} {e : TypeId} {xs : List Value} (h : w.ownsRow b0 e sz (.slice (some ⟨B, 0, none⟩) n n) n xs) : ∃ cur, RowAt w B e (n * sz) cur := by
  obtain ⟨_, ⟨h, _⟩ | ⟨g', cap', cur, h, _, hg, _, _, hs, _⟩⟩ := h
  · cases h
  · cases h
    exact ⟨cur, hg, hs⟩

theorem RowAt.lt {w : World} {B : Nat} {e : TypeId} {sz : Nat} {cur : Array Value} (h : RowAt w B e sz cur) : B < w.heap.size := by
  rcases Nat.lt_or_ge B w.heap.size with h1 | h1
  · exact h1
  · have := h.1
    rw [Array.getElem?_eq_none h1] at this
    cases this

theorem RowAt.cell {w : World} {B : Nat} {e : TypeId} {sz : Nat} {cur : Array Value} (h : RowAt w B e sz cur) (j : Nat) : w.cell? ⟨B, j, none⟩ = cur[j]? := by
  simp [World.cell?, h.1]

theorem RowAt.there {w : World} {B : Nat} {e : TypeId} {sz : Nat} {cur : Array Value} (h : RowAt w B e sz cur) (j : Nat) (hj : j < sz) : ∃ x, w.cell? ⟨B, j, none⟩ = some x := by
  rw [h.cell j, Array.getElem?_eq_getElem (by rw [h.2]; exact hj)]
  exact ⟨_, rfl⟩

theorem RowAt.free {w : World} {B : Nat} {e : TypeId} {sz : Nat} {cur : Array Value} (h : RowAt w B e sz cur) (j : Nat) : w.frozen? ⟨B, j, none⟩ = false := by
  simp [World.frozen?, h.1]

theorem RowAt.grown {w w' : World} {B : Nat} {e : TypeId} {sz : Nat} {cur : Array Value} (h : RowAt w B e sz cur) (hg : w.grownBy w' none) : RowAt w' B e sz cur :=
  ⟨(hg.block B h.lt (by simp)).trans h.1, h.2⟩

theorem Yba.info35 : (Yba.prog.info? 35).map (fun i => (i.zero, i.size, i.bytes)) = some (some (.agg #[.int .u8 0, .int .i64 0, .int .u32 0, .int .u32 0, .int .u32 0]), 5, 32) := by kernel_rfl
theorem Yba.info29 : (Yba.prog.info? 29).map (fun i => (i.zero, i.size, i.bytes)) = some (some (.int .i8 0), 1, 1) := by kernel_rfl
theorem Yba.info24 : (Yba.prog.info? 24).map (fun i => (i.zero, i.size, i.bytes)) = some (some (.int .u32 0), 1, 4) := by kernel_rfl
theorem Yba.info5 : (Yba.prog.info? 5).map (fun i => (i.zero, i.size, i.bytes)) = some (some (.int .u8 0), 1, 1) := by kernel_rfl

theorem RowAt.other {w w' : World} {B g : Nat} {e : TypeId} {sz : Nat} {cur : Array Value} (h : RowAt w B e sz cur) (hg : w.grownBy w' (some g)) (hne : B ≠ g) : RowAt w' B e sz cur :=
  ⟨(hg.block B h.lt (by simpa using hne)).trans h.1, h.2⟩

theorem GatesAt.other {w w' : World} {p off n g : Nat} {G : Nat → Gate} (h : GatesAt w p off n G) (hg : w.grownBy w' (some g)) (hne : p ≠ g) : GatesAt w' p off n G := by
  have hb := hg.block p h.lt (by simpa using hne)
  have hc : ∀ j, w'.cell? ⟨p, j, none⟩ = w.cell? ⟨p, j, none⟩ := fun j => World.cell?_of_block (a := ⟨p, j, none⟩) hb
  exact ⟨Nat.lt_of_lt_of_le h.lt hg.size, fun i hi => (hc _).trans (h.gk i hi), fun i hi => (hc _).trans (h.ga i hi), fun i hi => (hc _).trans (h.gb i hi),
    fun i hi => (hc _).trans (h.gc i hi), fun i hi => (hc _).trans (h.gv i hi), h.fits⟩

/-- How far the rows are filled. -/
structure Fill (w wr : World) (B0 B1 B2 B3 n i : Nat) (G : Nat → Gate) : Prop where
  bel : Below w.heap.size w wr
  gates : ∃ cur, RowAt wr B0 35 (n * 5) cur ∧ ∀ j, j < i → cur[j * 5]? = some (.int .u8 ((G j).k % 4 : Nat)) ∧ cur[j * 5 + 1]? = some (.int .i64 0) ∧ cur[j * 5 + 2]? = some (.int .u32 ((G j).a % (2 * n) : Nat)) ∧
    cur[j * 5 + 3]? = some (.int .u32 ((G j).b % (2 * n) : Nat)) ∧ cur[j * 5 + 4]? = some (.int .u32 ((G j).c % (2 * n) : Nat))
  vals : ∃ cur, RowAt wr B1 29 n cur ∧ ∀ j, j < i → cur[j]? = some (.int .i8 (G j).v)
  lits : ∃ cur, RowAt wr B2 24 (3 * n) cur ∧ ∀ j, j < i → cur[3 * j]? = some (.int .u32 ((G j).a % (2 * n) : Nat)) ∧ cur[3 * j + 1]? = some (.int .u32 ((G j).b % (2 * n) : Nat)) ∧ cur[3 * j + 2]? = some (.int .u32 ((G j).c % (2 * n) : Nat))
  kinds : ∃ cur, RowAt wr B3 5 n cur ∧ ∀ j, j < i → cur[j]? = some (.int .u8 ((G j).k % 4 : Nat))

section
variable {P : Program}

/-- A STORE INTO A ROW THAT IS KNOWN WHOLE, at whatever place, of whatever number of cells; the world behind it is a variable. -/
theorem wpList_store_in {ops : Array Oper} {rest : List Oper} {o : Oper} {a : Act} {w : World} {Q : Exit → Act → World → Prop} (hgd : o.guard = none) (ty : TypeId) (x y : Operand) (ho : o.op = .store ty x y)
    (hd : o.dst = none) (g off : Nat) (v : Value) (hx : a.eval x = .pointer (some ⟨g, off, none⟩)) (hy : a.eval y = v) (t : TypeId) (cur : Array Value) (hg : w.heap[g]? = some (.cells cur t (0, 0)))
    (hi : (P.info? ty).map (·.size) = some v.cells.size) (hfit : off + v.cells.size ≤ cur.size) (h1 : ∀ u ∈ v.cells.toList, u.oneCell' = true)
    (h : ∀ w', RowAt w' g t cur.size (splice cur.toList off v.cells.toList).toArray → w.grownBy w' (some g) → wpList P ops Q rest a w') : wpList P ops Q (o :: rest) a w := by
  have hrun := run_storeCells_at (P := P) g off t v.cells.toList 0 cur w hg (by simpa using hfit) h1
  refine wpList_plain hgd fun K hK => ?_
  cases hq : P.info? ty with
  | none => simp [hq] at hi
  | some i =>
    have hs : v.cells.size = i.size := by simp [hq] at hi; omega
    unfold Oper.wp execOp
    simp [ho, hx, hy, Instr.storeAt, Instr.sureAddr, storeVar, sizeOf, typeInfo, hq, hs, hrun]
    have hh := h (w.setRow g (splice cur.toList off v.cells.toList).toArray) ⟨setRow_heap w g _ _ t _ hg, by simp [splice]; omega⟩ ⟨rfl, rfl, rfl, by simp [World.setRow], fun k _ hk => setRow_other w g k _ (fun e => hk (by rw [e]))⟩
    have e : splice cur.toList off v.cells.toList = List.take off cur.toList ++ (v.cells.toList ++ List.drop (off + i.size) cur.toList) := by simp [splice, hs]
    rw [← e]
    show K (a.put o.dst undef) _
    rw [hd]
    exact hK _ _ hh

theorem splice_out {L cs : List Value} {off j : Nat} (hf : off + cs.length ≤ L.length) (h : j < off ∨ off + cs.length ≤ j) : (splice L off cs)[j]? = L[j]? := by
  unfold splice
  rcases h with h | h
  · rw [List.getElem?_append_left (by simp; omega), List.getElem?_take_of_lt h]
  · rw [List.getElem?_append_right (by simp; omega), List.getElem?_append_right (by simp; omega), List.getElem?_drop]
    congr 1
    simp
    omega

theorem splice_in {L cs : List Value} {off j : Nat} (hf : off + cs.length ≤ L.length) (h : j < cs.length) : (splice L off cs)[off + j]? = cs[j]? := by
  unfold splice
  rw [List.getElem?_append_right (by simp; omega), List.getElem?_append_left (by simp; omega)]
  congr 1
  simp
  omega

/-- What a store leaves of a row. -/
structure Upd (q q' : Array Value) (off : Nat) (vs : List Value) : Prop where
  out : ∀ j, (j < off ∨ off + vs.length ≤ j) → q'[j]? = q[j]?
  inn : ∀ j, j < vs.length → q'[off + j]? = vs[j]?

theorem wpList_store_to {ops : Array Oper} {rest : List Oper} {o : Oper} {a : Act} {w : World} {Q : Exit → Act → World → Prop} (hgd : o.guard = none) (ty : TypeId) (x y : Operand) (ho : o.op = .store ty x y)
    (hd : o.dst = none) (g off : Nat) (v : Value) (hx : a.eval x = .pointer (some ⟨g, off, none⟩)) (hy : a.eval y = v) (t : TypeId) (sz : Nat) (cur : Array Value) (hg : RowAt w g t sz cur)
    (hi : (P.info? ty).map (·.size) = some v.cells.size) (hfit : off + v.cells.size ≤ sz) (h1 : ∀ u ∈ v.cells.toList, u.oneCell' = true)
    (h : ∀ w' q', RowAt w' g t sz q' → Upd cur q' off v.cells.toList → w.grownBy w' (some g) → wpList P ops Q rest a w') : wpList P ops Q (o :: rest) a w := by
  have e := hg.2
  refine wpList_store_in hgd ty x y ho hd g off v hx hy t cur hg.1 hi (by omega) h1 fun w' r gr => h w' _ ⟨r.1, r.2.trans e⟩ ⟨fun j hj => ?_, fun j hj => ?_⟩ gr
  · rw [List.getElem?_toArray, splice_out (by simp; omega) hj]
    simp
  · rw [List.getElem?_toArray, splice_in (by simp; omega) hj]

theorem grown_new_set {w W : World} (h : w.grownBy W none) (p : Addr) (hp : w.heap.size ≤ p.block) (u : Value) : w.grownBy (W.setCell p u) none :=
  ⟨h.os, h.tape, h.output, by simpa [World.setCell] using h.size, fun k hk hr => (Below.heap_setCell W p u k (by omega)).trans (h.block k hk hr)⟩

/-- The same, the row known in an older world of which this one has at most more blocks. -/
theorem wpList_store_new {ops : Array Oper} {rest : List Oper} {o : Oper} {a : Act} {w : World} {Q : Exit → Act → World → Prop} (hgd : o.guard = none) (ty : TypeId) (x y : Operand) (ho : o.op = .store ty x y)
    (hd : o.dst = none) (g off : Nat) (v : Value) (hx : a.eval x = .pointer (some ⟨g, off, none⟩)) (hy : a.eval y = v) (t : TypeId) (sz : Nat) (cur : Array Value) (w0 : World) (hw : w0.grownBy w none) (hg : RowAt w0 g t sz cur)
    (hi : (P.info? ty).map (·.size) = some v.cells.size) (hfit : off + v.cells.size ≤ sz) (h1 : ∀ u ∈ v.cells.toList, u.oneCell' = true)
    (h : ∀ w' q', RowAt w' g t sz q' → Upd cur q' off v.cells.toList → w0.grownBy w' (some g) → wpList P ops Q rest a w') : wpList P ops Q (o :: rest) a w := by
  refine wpList_store_to hgd ty x y ho hd g off v hx hy t sz cur (hg.grown hw) hi hfit h1 fun w' q' r u gr => h w' q' r u ?_
  exact ⟨gr.os.trans hw.os, gr.tape.trans hw.tape, gr.output.trans hw.output, Nat.le_trans hw.size gr.size, fun k hk hr => (gr.block k (Nat.lt_of_lt_of_le hk hw.size) hr).trans (hw.block k hk (by simp))⟩

end

theorem Upd.one {q q' : Array Value} {off : Nat} {v : Value} (h : Upd q q' off [v]) : q'[off]? = some v := h.inn 0 (by simp)
theorem Upd.rest {q q' : Array Value} {off : Nat} {v : Value} (h : Upd q q' off [v]) (j : Nat) (hj : j ≠ off) : q'[j]? = q[j]? := h.out j (by simp; omega)

theorem fill_step {w w' : World} {B0 B1 B2 B3 n i : Nat} {G : Nat → Gate} {q0 q1 q2 q3 y5 y6 y7 y8 y9 y10 : Array Value} {kv : Value} (bel : Below w.heap.size w w')
    (R0 : RowAt w' B0 35 (n * 5) y9) (R1 : RowAt w' B1 29 n y10) (R2 : RowAt w' B2 24 (3 * n) y8) (R3 : RowAt w' B3 5 n y5)
    (T0 : ∀ j, j < i → q0[j * 5]? = some (.int .u8 ((G j).k % 4 : Nat)) ∧ q0[j * 5 + 1]? = some (.int .i64 0) ∧ q0[j * 5 + 2]? = some (.int .u32 ((G j).a % (2 * n) : Nat)) ∧
      q0[j * 5 + 3]? = some (.int .u32 ((G j).b % (2 * n) : Nat)) ∧ q0[j * 5 + 4]? = some (.int .u32 ((G j).c % (2 * n) : Nat)))
    (T1 : ∀ j, j < i → q1[j]? = some (.int .i8 (G j).v))
    (T2 : ∀ j, j < i → q2[3 * j]? = some (.int .u32 ((G j).a % (2 * n) : Nat)) ∧ q2[3 * j + 1]? = some (.int .u32 ((G j).b % (2 * n) : Nat)) ∧ q2[3 * j + 2]? = some (.int .u32 ((G j).c % (2 * n) : Nat)))
    (T3 : ∀ j, j < i → q3[j]? = some (.int .u8 ((G j).k % 4 : Nat)))
    (U5 : Upd q3 y5 i [.int .u8 ((G i).k % 4 : Nat)]) (U6 : Upd q2 y6 (3 * i) [.int .u32 ((G i).a % (2 * n) : Nat)]) (U7 : Upd y6 y7 (3 * i + 1) [.int .u32 ((G i).b % (2 * n) : Nat)])
    (U8 : Upd y7 y8 (3 * i + 2) [.int .u32 ((G i).c % (2 * n) : Nat)]) (hkv : kv = .int .u8 ((G i).k % 4 : Nat))
    (U9 : Upd q0 y9 (i * 5) [kv, .int .i64 0, .int .u32 ((G i).a % (2 * n) : Nat), .int .u32 ((G i).b % (2 * n) : Nat), .int .u32 ((G i).c % (2 * n) : Nat)])
    (U10 : Upd q1 y10 i [.int .i8 (G i).v]) : Fill w w' B0 B1 B2 B3 n (i + 1) G := by
  subst hkv
  refine ⟨bel, ⟨y9, R0, fun j hj => ?_⟩, ⟨y10, R1, fun j hj => ?_⟩, ⟨y8, R2, fun j hj => ?_⟩, ⟨y5, R3, fun j hj => ?_⟩⟩
  · rcases Nat.lt_or_ge j i with h | h
    · obtain ⟨a0, a1, a2, a3, a4⟩ := T0 j h
      exact ⟨(U9.out _ (by simp; omega)).trans a0, (U9.out _ (by simp; omega)).trans a1, (U9.out _ (by simp; omega)).trans a2, (U9.out _ (by simp; omega)).trans a3, (U9.out _ (by simp; omega)).trans a4⟩
    · obtain rfl : j = i := by omega
      exact ⟨U9.inn 0 (by simp), U9.inn 1 (by simp), U9.inn 2 (by simp), U9.inn 3 (by simp), U9.inn 4 (by simp)⟩
  · rcases Nat.lt_or_ge j i with h | h
    · exact (U10.rest j (by omega)).trans (T1 j h)
    · obtain rfl : j = i := by omega
      exact U10.one
  · rcases Nat.lt_or_ge j i with h | h
    · obtain ⟨a0, a1, a2⟩ := T2 j h
      refine ⟨?_, ?_, ?_⟩
      · exact (U8.rest _ (by omega)).trans ((U7.rest _ (by omega)).trans ((U6.rest _ (by omega)).trans a0))
      · exact (U8.rest _ (by omega)).trans ((U7.rest _ (by omega)).trans ((U6.rest _ (by omega)).trans a1))
      · exact (U8.rest _ (by omega)).trans ((U7.rest _ (by omega)).trans ((U6.rest _ (by omega)).trans a2))
    · obtain rfl : j = i := by omega
      exact ⟨(U8.rest _ (by omega)).trans ((U7.rest _ (by omega)).trans U6.one), (U8.rest _ (by omega)).trans U7.one, U8.one⟩
  · rcases Nat.lt_or_ge j i with h | h
    · exact (U5.rest j (by omega)).trans (T3 j h)
    · obtain rfl : j = i := by omega
      exact U5.one

/-- The rows, filled. -/
structure Full (wr : World) (B0 B1 B2 B3 n : Nat) (G : Nat → Gate) : Prop where
  gk : ∀ j, j < n → wr.cell? ⟨B0, j * 5, none⟩ = some (.int .u8 ((G j).k % 4 : Nat))
  gz : ∀ j, j < n → wr.cell? ⟨B0, j * 5 + 1, none⟩ = some (.int .i64 0)
  ga : ∀ j, j < n → wr.cell? ⟨B0, j * 5 + 2, none⟩ = some (.int .u32 ((G j).a % (2 * n) : Nat))
  gb : ∀ j, j < n → wr.cell? ⟨B0, j * 5 + 3, none⟩ = some (.int .u32 ((G j).b % (2 * n) : Nat))
  gc : ∀ j, j < n → wr.cell? ⟨B0, j * 5 + 4, none⟩ = some (.int .u32 ((G j).c % (2 * n) : Nat))
  vv : ∀ j, j < n → wr.cell? ⟨B1, j, none⟩ = some (.int .i8 (G j).v)
  la : ∀ j, j < n → wr.cell? ⟨B2, 3 * j, none⟩ = some (.int .u32 ((G j).a % (2 * n) : Nat))
  lb : ∀ j, j < n → wr.cell? ⟨B2, 3 * j + 1, none⟩ = some (.int .u32 ((G j).b % (2 * n) : Nat))
  lc : ∀ j, j < n → wr.cell? ⟨B2, 3 * j + 2, none⟩ = some (.int .u32 ((G j).c % (2 * n) : Nat))
  kk : ∀ j, j < n → wr.cell? ⟨B3, j, none⟩ = some (.int .u8 ((G j).k % 4 : Nat))

theorem Full.below {w w' : World} {B0 B1 B2 B3 n : Nat} {G : Nat → Gate} (h : Full w B0 B1 B2 B3 n G) (hb : Below w.heap.size w w') : Full w' B0 B1 B2 B3 n G :=
  ⟨fun j hj => cell_stays hb (h.gk j hj) (Nat.le_refl _), fun j hj => cell_stays hb (h.gz j hj) (Nat.le_refl _), fun j hj => cell_stays hb (h.ga j hj) (Nat.le_refl _), fun j hj => cell_stays hb (h.gb j hj) (Nat.le_refl _), fun j hj => cell_stays hb (h.gc j hj) (Nat.le_refl _), fun j hj => cell_stays hb (h.vv j hj) (Nat.le_refl _), fun j hj => cell_stays hb (h.la j hj) (Nat.le_refl _), fun j hj => cell_stays hb (h.lb j hj) (Nat.le_refl _), fun j hj => cell_stays hb (h.lc j hj) (Nat.le_refl _), fun j hj => cell_stays hb (h.kk j hj) (Nat.le_refl _)⟩

theorem Full.drewN {w : World} {B0 B1 B2 B3 n : Nat} {G : Nat → Gate} (h : Full w B0 B1 B2 B3 n G) (m : Nat) : Full (w.drewN m) B0 B1 B2 B3 n G := h.below (belowN (Below.refl _ _) m)

theorem Fill.full {w wr : World} {B0 B1 B2 B3 n : Nat} {G : Nat → Gate} (h : Fill w wr B0 B1 B2 B3 n n G) : Full wr B0 B1 B2 B3 n G := by
  obtain ⟨_, ⟨q0, r0, t0⟩, ⟨q1, r1, t1⟩, ⟨q2, r2, t2⟩, ⟨q3, r3, t3⟩⟩ := h
  exact ⟨fun j hj => (r0.cell _).trans (t0 j hj).1, fun j hj => (r0.cell _).trans (t0 j hj).2.1, fun j hj => (r0.cell _).trans (t0 j hj).2.2.1, fun j hj => (r0.cell _).trans (t0 j hj).2.2.2.1, fun j hj => (r0.cell _).trans (t0 j hj).2.2.2.2,
    fun j hj => (r1.cell _).trans (t1 j hj), fun j hj => (r2.cell _).trans (t2 j hj).1, fun j hj => (r2.cell _).trans (t2 j hj).2.1, fun j hj => (r2.cell _).trans (t2 j hj).2.2, fun j hj => (r3.cell _).trans (t3 j hj)⟩

/-- What is known while the law reads back. -/
structure Last (w wr : World) (p off n B0 B1 B2 B3 sB eB : Nat) (G : Nat → Gate) : Prop where
  bel : Below w.heap.size w wr
  full : Full wr B0 B1 B2 B3 n G
  gates : GatesAt wr p off n G
  d0 : wr.cell? ⟨sB, 0, none⟩ = some (.pointer (some ⟨eB, 0, none⟩))
  d2 : wr.cell? ⟨sB, 2, none⟩ = some (.slice (some ⟨B1, 0, none⟩) n n)
  d4 : wr.cell? ⟨eB, 4, none⟩ = some (.slice (some ⟨B0, 0, none⟩) n n)

theorem Last.drewN {w wr : World} {p off n B0 B1 B2 B3 sB eB : Nat} {G : Nat → Gate} (h : Last w wr p off n B0 B1 B2 B3 sB eB G) (m : Nat) : Last w (wr.drewN m) p off n B0 B1 B2 B3 sB eB G :=
  ⟨belowN h.bel m, h.full.drewN m, h.gates.below (belowN (Below.refl _ _) m), h.d0, h.d2, h.d4⟩

end Go.Proofs.Ybulkcita
