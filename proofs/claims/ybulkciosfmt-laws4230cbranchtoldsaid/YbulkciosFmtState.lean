/-
  The pages and the tree while the law runs: 'Alloc' (74), 'Write' (75), 'drop' (15), 'errors.New' (20), 'New' (5).
-/
import Derived.Test.YbulkciosFmtLeafPage
import Derived.Maps.AppendAt
namespace Go.Proofs.YbulkciosFmt
open Go.RowKit

/-- A store of one cell into a row that is known whole. -/
theorem wpList_store_row {P : Program} {w : World} {ops : Array Oper} {rest : List Oper} {o : Oper} {a : Act} {Q : Exit → Act → World → Prop} (hgd : o.guard = none) (ty : TypeId) (x y : Operand) (ho : o.op = .store ty x y)
    (hd : o.dst = none) (g off : Nat) (v : Value) (hx : a.eval x = .pointer (some ⟨g, off, none⟩)) (hy : a.eval y = v) (t : TypeId) (cur : List Value) (hg : RowAt w g t cur)
    (hi : (P.info? ty).map (·.size) = some 1) (hv : v.cells = #[v]) (h1 : v.oneCell' = true) (hfit : off < cur.length)
    (h : ∀ w', RowAt w' g t (cur.set off v) → w.grownBy w' (some g) → wpList P ops Q rest a w') : wpList P ops Q (o :: rest) a w := by
  have hrun := run_storeCells_at (P := P) g off t [v] 0 _ w hg (by simp; omega) (by simpa using h1)
  refine wpList_plain hgd fun K hK => ?_
  cases hq : P.info? ty with
  | none => simp [hq] at hi
  | some i =>
    have hs : i.size = 1 := by simpa [hq] using hi
    unfold Oper.wp execOp
    simp [ho, hx, hy, Instr.storeAt, Instr.sureAddr, storeVar, sizeOf, typeInfo, hq, hs, hv, hrun]
    have hh := h (w.setRow g (splice cur off [v]).toArray) (by rw [← splice_one _ _ _ hfit]; exact setRow_heap w g _ _ t _ hg) (setRow_grown _ _ _)
    have e : splice cur off [v] = List.take off cur ++ (v :: List.drop (off + 1) cur) := by simp [splice]
    rw [← e]
    show K (a.put o.dst undef) _
    rw [hd]
    exact hK _ _ hh

/-- The pages' row. -/
def pgRow (next : Int) (fa fw : Bool) (allocs : Nat) (vi vb : Value) : List Value := [.int .u64 next, .bool fa, .bool fw, .int .i64 allocs, vi, vb, .int .i64 0]

/-- The tree's row. -/
def trRow (bp : Nat) (vf : Value) : List Value := [.iface 35 (.pointer (some ⟨bp, 0, none⟩)), .pointer none, .int .u64 0, .pointer none, .int .u64 0, vf]

/-- A node's row. -/
def nodeRow (id : Int) (dirty leaf : Bool) (ks vs kids nodes : Value) (bytes : Int) : List Value := [.int .u64 id, .bool dirty, .bool leaf, .slice none 0 0, .slice none 0 0, ks, vs, kids, nodes, .int .i64 bytes]

def u64s (xs : List Int) : List Value := xs.map (.int .u64)
def slices (ps : List (Nat × List Int)) : List Value := ps.map fun p => .slice (some ⟨p.1, 0, none⟩) 4092 4092

/-- The rows that grow, and the pages. -/
structure Rows (w : World) (b : Nat) (ids : List Int) (pages : List (Nat × List Int)) (freed : List Int) (vi vb vf : Value) : Prop where
  ids : w.ownsRow b 23 1 vi ids.length (u64s ids)
  bufs : w.ownsRow b 26 1 vb pages.length (slices pages)
  freed : w.ownsRow b 23 1 vf freed.length (u64s freed)
  apart : vi.ownBlock = none ∨ vf.ownBlock = none ∨ vi.ownBlock ≠ vf.ownBlock
  pages : ∀ p ∈ pages, b ≤ p.1 ∧ PRow w p.1 p.2
  b : b ≤ w.heap.size

/-- What lies at the pages and at the tree. -/
structure St (w : World) (b bp bt : Nat) (next : Int) (fa fw : Bool) (allocs : Nat) (ids : List Int) (pages : List (Nat × List Int)) (freed : List Int) (vi vb vf : Value) : Prop where
  pg : RowAt w bp 37 (pgRow next fa fw allocs vi vb)
  tr : RowAt w bt 48 (trRow bp vf)
  rows : Rows w b ids pages freed vi vb vf
  bp : bp < b
  bt : bt < b

/-- Below b nothing has turned but the rows S. -/
structure Fr (b : Nat) (S : List Nat) (w w' : World) : Prop where
  os : w'.os = w.os
  tape : w'.tape = w.tape
  output : w'.output = w.output
  size : w.heap.size ≤ w'.heap.size
  block : ∀ k, k < b → k ∉ S → w'.heap[k]? = w.heap[k]?

theorem Fr.refl (b : Nat) (S : List Nat) (w : World) : Fr b S w w := ⟨rfl, rfl, rfl, Nat.le_refl _, fun _ _ _ => rfl⟩
theorem Fr.trans {b : Nat} {S : List Nat} {u v w : World} (h : Fr b S u v) (k : Fr b S v w) : Fr b S u w :=
  ⟨k.os.trans h.os, k.tape.trans h.tape, k.output.trans h.output, Nat.le_trans h.size k.size, fun i hi hs => (k.block i hi hs).trans (h.block i hi hs)⟩
theorem Fr.mono {b : Nat} {S T : List Nat} {u v : World} (h : Fr b S u v) (hs : ∀ k ∈ S, k ∈ T) : Fr b T u v := ⟨h.os, h.tape, h.output, h.size, fun i hi ht => h.block i hi (fun e => ht (hs i e))⟩
theorem Fr.grown {b : Nat} {S : List Nat} {u v w : World} {r : Option Nat} (h : Fr b S u v) (hg : v.grownBy w r) (hb : b ≤ u.heap.size) (hr : ∀ k, r = some k → b ≤ k ∨ k ∈ S) : Fr b S u w :=
  h.trans ⟨hg.os, hg.tape, hg.output, hg.size, fun i hi hs => hg.block i (Nat.lt_of_lt_of_le hi (Nat.le_trans hb h.size)) (fun e => by rcases hr i e.symm with h1 | h1; omega; exact hs h1)⟩
theorem Fr.below {b : Nat} {S : List Nat} {u v w : World} (h : Fr b S u v) (hb : Below b v w) : Fr b S u w := h.trans ⟨hb.os, hb.tape, hb.output, hb.size, fun i hi _ => hb.block i hi⟩
theorem Fr.cell {b : Nat} {S : List Nat} {u v : World} (h : Fr b S u v) {a : Addr} (ha : a.block < b) (hs : a.block ∉ S) : v.cell? a = u.cell? a := World.cell?_of_block (w := u) (h.block a.block ha hs)
theorem Fr.row {b : Nat} {S : List Nat} {u v : World} (h : Fr b S u v) {B : Nat} {e : TypeId} {cur : List Value} (hr : RowAt u B e cur) (ha : B < b) (hs : B ∉ S) : RowAt v B e cur := (h.block B ha hs).trans hr

theorem own_ne_row {w : World} {b e g : Nat} {v : Value} {n : Nat} {xs cur : List Value} {t : TypeId} (h : w.ownsRow b e 1 v n xs) (hr : RowAt w g t cur) (he : e ≠ t) : v.ownBlock = none ∨ v.ownBlock ≠ some g := by
  obtain ⟨_, ⟨rfl, _⟩ | ⟨g', cap, c, rfl, _, hg, _⟩⟩ := h
  · exact .inl rfl
  · refine .inr fun e1 => ?_
    have e2 : g' = g := by simpa [Value.ownBlock] using e1
    subst e2
    unfold RowAt at hr
    rw [hg] at hr
    cases hr
    exact he rfl

theorem own_ge {w : World} {b e : Nat} {v : Value} {n : Nat} {xs : List Value} (h : w.ownsRow b e 1 v n xs) (g : Nat) (hg : g < b) : v.ownBlock = none ∨ v.ownBlock ≠ some g := by
  obtain ⟨_, ⟨rfl, _⟩ | ⟨g', cap, c, rfl, hb, _⟩⟩ := h
  · exact .inl rfl
  · refine .inr fun e1 => ?_
    have e2 : g' = g := by simpa [Value.ownBlock] using e1
    omega

theorem own_ne_own {w : World} {b e e' : Nat} {v v' : Value} {n n' : Nat} {xs xs' : List Value} (h : w.ownsRow b e 1 v n xs) (h' : w.ownsRow b e' 1 v' n' xs') (he : e ≠ e') : v.ownBlock = none ∨ v.ownBlock ≠ v'.ownBlock := by
  obtain ⟨_, ⟨rfl, _⟩ | ⟨g, cap, c, rfl, _, hg, _⟩⟩ := h'
  · cases hv : v.ownBlock with
    | none => exact .inl rfl
    | some k => exact .inr (by simp [Value.ownBlock])
  · exact own_ne_row (t := e') (g := g) (cur := c.toList) h (by unfold RowAt; simpa using hg) he

/-- Whatever else is made or turned, the rows stay. -/
theorem Rows.other {w w' : World} {b : Nat} {ids freed : List Int} {pages : List (Nat × List Int)} {vi vb vf : Value} (h : Rows w b ids pages freed vi vb vf)
    {r : Option Nat} (hg : w.grownBy w' r) (h3 : vi.ownBlock = none ∨ vi.ownBlock ≠ r) (h4 : vb.ownBlock = none ∨ vb.ownBlock ≠ r) (h5 : vf.ownBlock = none ∨ vf.ownBlock ≠ r) (h6 : ∀ p ∈ pages, some p.1 ≠ r) :
    Rows w' b ids pages freed vi vb vf :=
  ⟨h.ids.kept hg h3, h.bufs.kept hg h4, h.freed.kept hg h5, h.apart, fun p hp => ⟨(h.pages p hp).1, (h.pages p hp).2.grown hg (h6 p hp)⟩, Nat.le_trans h.b hg.size⟩

theorem Rows.more {w w' : World} {b : Nat} {ids freed : List Int} {pages : List (Nat × List Int)} {vi vb vf : Value} (h : Rows w b ids pages freed vi vb vf) (hg : w.grownBy w' none) : Rows w' b ids pages freed vi vb vf := by
  refine h.other hg ?_ ?_ ?_ (by simp)
  · cases vi.ownBlock <;> simp
  · cases vb.ownBlock <;> simp
  · cases vf.ownBlock <;> simp

/-- A row below b is turned. -/
theorem Rows.low {w w' : World} {b g : Nat} {ids freed : List Int} {pages : List (Nat × List Int)} {vi vb vf : Value} (h : Rows w b ids pages freed vi vb vf) (hg : w.grownBy w' (some g)) (hb : g < b) : Rows w' b ids pages freed vi vb vf :=
  h.other hg (own_ge h.ids g hb) (own_ge h.bufs g hb) (own_ge h.freed g hb) (fun p hp e => by have := (h.pages p hp).1; cases e; omega)

theorem own_lt {w : World} {b e : Nat} {v : Value} {n : Nat} {xs : List Value} (h : w.ownsRow b e 1 v n xs) : v.ownBlock = none ∨ v.ownBlock ≠ some w.heap.size := by
  cases hv : v.ownBlock with
  | none => exact .inl rfl
  | some k => exact .inr (fun e => by have := (h.lt k hv).2; cases e; omega)

theorem Rows.pushId {w w' : World} {b : Nat} {ids freed : List Int} {pages : List (Nat × List Int)} {vi vb vf vi' : Value} {id : Int} (h : Rows w b ids pages freed vi vb vf)
    (ho : w'.ownsRow b 23 1 vi' (ids.length + 1) (u64s ids ++ [.int .u64 id])) (hg : w.grownBy w' vi.ownBlock) (hv : vi'.ownBlock = vi.ownBlock ∨ vi'.ownBlock = some w.heap.size) : Rows w' b (ids ++ [id]) pages freed vi' vb vf := by
  refine ⟨by simpa [u64s] using ho, h.bufs.kept hg (own_ne_own h.bufs h.ids (by decide)), h.freed.kept hg ?_, ?_, fun p hp => ⟨(h.pages p hp).1, (h.pages p hp).2.grown hg ?_⟩, Nat.le_trans h.b hg.size⟩
  · rcases h.apart with a | a | a
    · rw [a]; cases vf.ownBlock <;> simp
    · exact .inl a
    · exact .inr (fun e => a e.symm)
  · rcases hv with e | e
    · rw [e]; exact h.apart
    · rw [e]
      rcases own_lt h.freed with a | a
      · exact .inr (.inl a)
      · exact .inr (.inr (fun e => a e.symm))
  · rcases own_ne_row h.ids (h.pages p hp).2.row (by decide) with a | a
    · rw [a]; simp
    · exact fun e => a e.symm

theorem Rows.pushFreed {w w' : World} {b : Nat} {ids freed : List Int} {pages : List (Nat × List Int)} {vi vb vf vf' : Value} {id : Int} (h : Rows w b ids pages freed vi vb vf)
    (ho : w'.ownsRow b 23 1 vf' (freed.length + 1) (u64s freed ++ [.int .u64 id])) (hg : w.grownBy w' vf.ownBlock) (hv : vf'.ownBlock = vf.ownBlock ∨ vf'.ownBlock = some w.heap.size) : Rows w' b ids pages (freed ++ [id]) vi vb vf' := by
  refine ⟨h.ids.kept hg ?_, h.bufs.kept hg (own_ne_own h.bufs h.freed (by decide)), by simpa [u64s] using ho, ?_, fun p hp => ⟨(h.pages p hp).1, (h.pages p hp).2.grown hg ?_⟩, Nat.le_trans h.b hg.size⟩
  · rcases h.apart with a | a | a
    · exact .inl a
    · rw [a]; cases vi.ownBlock <;> simp
    · exact .inr a
  · rcases hv with e | e
    · rw [e]; exact h.apart
    · rw [e]
      rcases own_lt h.ids with a | a
      · exact .inl a
      · exact .inr (.inr a)
  · rcases own_ne_row h.freed (h.pages p hp).2.row (by decide) with a | a
    · rw [a]; simp
    · exact fun e => a e.symm

theorem Rows.pushPage {w w' : World} {b : Nat} {ids freed : List Int} {pages : List (Nat × List Int)} {vi vb vf vb' : Value} {g : Nat} {xs : List Int} (h : Rows w b ids pages freed vi vb vf) (hgb : b ≤ g) (hp : PRow w g xs)
    (ho : w'.ownsRow b 26 1 vb' (pages.length + 1) (slices pages ++ [.slice (some ⟨g, 0, none⟩) 4092 4092])) (hg : w.grownBy w' vb.ownBlock) : Rows w' b ids (pages ++ [(g, xs)]) freed vi vb' vf := by
  have hpage : ∀ g xs, PRow w g xs → some g ≠ vb.ownBlock := fun g xs hp => by
    rcases own_ne_row h.bufs hp.row (by decide) with a | a
    · rw [a]; simp
    · exact fun e => a e.symm
  refine ⟨h.ids.kept hg (own_ne_own h.ids h.bufs (by decide)), by simpa [slices] using ho, h.freed.kept hg (own_ne_own h.freed h.bufs (by decide)), h.apart, fun p hq => ?_, Nat.le_trans h.b hg.size⟩
  rcases List.mem_append.1 hq with h1 | h1
  · exact ⟨(h.pages p h1).1, (h.pages p h1).2.grown hg (hpage _ _ (h.pages p h1).2)⟩
  · obtain rfl : p = (g, xs) := by simpa using h1
    exact ⟨hgb, hp.grown hg (hpage _ _ hp)⟩

theorem St.more {w w' : World} {b bp bt : Nat} {next : Int} {fa fw : Bool} {allocs : Nat} {ids freed : List Int} {pages : List (Nat × List Int)} {vi vb vf : Value} (h : St w b bp bt next fa fw allocs ids pages freed vi vb vf)
    (hg : w.grownBy w' none) : St w' b bp bt next fa fw allocs ids pages freed vi vb vf := ⟨h.pg.grown hg (by simp), h.tr.grown hg (by simp), h.rows.more hg, h.bp, h.bt⟩

theorem St.drewN {w : World} {b bp bt : Nat} {next : Int} {fa fw : Bool} {allocs : Nat} {ids freed : List Int} {pages : List (Nat × List Int)} {vi vb vf : Value} (h : St w b bp bt next fa fw allocs ids pages freed vi vb vf)
    (m : Nat) : St (w.drewN m) b bp bt next fa fw allocs ids pages freed vi vb vf := h.more ⟨rfl, rfl, rfl, Nat.le_refl _, fun _ _ _ => rfl⟩

theorem St.drew {w : World} {b bp bt : Nat} {next : Int} {fa fw : Bool} {allocs : Nat} {ids freed : List Int} {pages : List (Nat × List Int)} {vi vb vf : Value} (h : St w b bp bt next fa fw allocs ids pages freed vi vb vf)
    : St w.drew b bp bt next fa fw allocs ids pages freed vi vb vf := h.more ⟨rfl, rfl, rfl, Nat.le_refl _, fun _ _ _ => rfl⟩

set_option maxRecDepth 100000 in
theorem errnew20 (w : World) (s : ByteArray) : Calls Ybaf.prog 20 #[.string s] w fun e w' => e = .returned (.iface 97 (.pointer (some ⟨w.heap.size, 0, none⟩))) ∧ w.grownBy w' none := by
  go_enter Ybaf.func20, Ybaf.ntmps20
  go_wp2
  go_ret
  exact ⟨rfl, grown_alloc _ _⟩

theorem Ybaf.size3 : (Ybaf.prog.info? 3).map (·.size) = some 1 := by kernel_rfl
theorem Ybaf.size4 : (Ybaf.prog.info? 4).map (·.size) = some 1 := by kernel_rfl
theorem Ybaf.size23 : (Ybaf.prog.info? 23).map (·.size) = some 1 := by kernel_rfl
theorem Ybaf.size25 : (Ybaf.prog.info? 25).map (·.size) = some 1 := by kernel_rfl
theorem Ybaf.size26 : (Ybaf.prog.info? 26).map (·.size) = some 1 := by kernel_rfl
theorem Ybaf.size31 : (Ybaf.prog.info? 31).map (·.size) = some 1 := by kernel_rfl

/-- One more, in 64 bits. -/
def inc (x : Int) : Int := IntKind.u64.wrap (x + 1)

theorem grown_two {u v w : World} {r r1 r2 : Option Nat} (h : u.grownBy v r1) (k : v.grownBy w r2) (h1 : r1 = none ∨ r1 = r) (h2 : r2 = none ∨ r2 = r) : u.grownBy w r :=
  ⟨k.os.trans h.os, k.tape.trans h.tape, k.output.trans h.output, Nat.le_trans h.size k.size, fun i hi hr =>
    (k.block i (Nat.lt_of_lt_of_le hi h.size) (by rcases h2 with rfl | rfl; simp; exact hr)).trans (h.block i hi (by rcases h1 with rfl | rfl; simp; exact hr))⟩

set_option maxRecDepth 100000 in
theorem alloc74 (w : World) (bp : Nat) (next : Int) (fa fw : Bool) (allocs : Nat) (vi vb : Value) (h : RowAt w bp 37 (pgRow next fa fw allocs vi vb)) (ha : allocs ≤ 1000) :
    Calls Ybaf.prog 74 #[.pointer (some ⟨bp, 0, none⟩)] w fun e w' => (if fa then ∃ q, e = .returned (.tuple #[.int .u64 0, .iface 97 q]) else e = .returned (.tuple #[.int .u64 (inc next), .nilIface])) ∧
      RowAt w' bp 37 (pgRow (if fa then next else inc next) fa fw (allocs + 1) vi vb) ∧ w.grownBy w' (some bp) := by
  have c3 : w.cell? ⟨bp, 3, none⟩ = some (.int .i64 allocs) := h.cell 3
  have HR := Hid.mk' h
  clear h
  go_enter Ybaf.func74, Ybaf.ntmps74
  go_wp2_with (refine wpList_store_row rfl 3 (.tmp 10) (.tmp 8) rfl rfl bp 3 (.int .i64 ((allocs : Int) + 1)) rfl rfl 37 _ HR.out Ybaf.size3 rfl rfl (by simp [pgRow]) ?_)
  intro w1 r1 g1
  have HR1 : Hid (RowAt w1 bp 37 (pgRow next fa fw (allocs + 1) vi vb)) := r1
  have HG1 := Hid.mk' g1
  clear r1 g1 c3
  have d1 : w1.cell? ⟨bp, 1, none⟩ = some (.bool fa) := HR1.out.cell 1
  have d0 : w1.cell? ⟨bp, 0, none⟩ = some (.int .u64 next) := HR1.out.cell 0
  cases fa with
  | true =>
    go_wp2_with fail
    refine (errnew20 _ _).mono ?_
    rintro e w2 ⟨rfl, hg2⟩
    have HG2 : Hid (w.grownBy w2 (some bp)) := grown_two HG1.out hg2 (.inr rfl) (.inl rfl)
    have HR2 : Hid (RowAt w2 bp 37 (pgRow next true fw (allocs + 1) vi vb)) := HR1.out.grown hg2 (by simp)
    clear hg2
    go_wp2
    go_ret2
    exact ⟨⟨_, rfl⟩, HR2.out, HG2.out⟩
  | false =>
    obtain ⟨y, HY⟩ : ∃ y, Hid (y = inc next) := ⟨_, rfl⟩
    have hy : IntKind.u64.wrap (next + 1) = y := HY.out.symm
    go_wp2_with (refine wpList_store_row rfl 23 (.tmp 22) (.tmp 20) rfl rfl bp 0 (.int .u64 y) rfl rfl 37 _ HR1.out Ybaf.size23 rfl rfl (by simp [pgRow]) ?_)
    intro w2 r2 g2
    have HR2 : Hid (RowAt w2 bp 37 (pgRow y false fw (allocs + 1) vi vb)) := r2
    have HG2 : Hid (w.grownBy w2 (some bp)) := grown_two HG1.out g2 (.inr rfl) (.inr rfl)
    clear r2 g2 d0 d1
    have d0 : w2.cell? ⟨bp, 0, none⟩ = some (.int .u64 y) := HR2.out.cell 0
    go_wp2
    go_ret2
    rw [← HY.out]
    exact ⟨rfl, HR2.out, HG2.out⟩

set_option maxRecDepth 100000 in
theorem new5 (w : World) (bp : Nat) : Calls Ybaf.prog 5 #[.iface 35 (.pointer (some ⟨bp, 0, none⟩)), .int .u64 0, .pointer none] w fun e w' => e = .returned (.pointer (some ⟨w.heap.size, 0, none⟩)) ∧ RowAt w' w.heap.size 48 (trRow bp (.slice none 0 0)) ∧ w.grownBy w' none := by
  go_enter Ybaf.func5, Ybaf.ntmps5
  go_wp2
  go_ret
  exact ⟨rfl, heap_alloc_new w _, grown_alloc _ _⟩

theorem maxLen_of (n : Nat) (h : n ≤ 100000) : n ≤ maxLen := by unfold maxLen; omega

theorem own_cells {w : World} {b e : Nat} {v : Value} {n : Nat} {xs : List Value} (h : w.ownsRow b e 1 v n xs) : v.cells = #[v] ∧ v.oneCell' = true := by
  obtain ⟨_, ⟨rfl, _⟩ | ⟨g', cap, c, rfl, _⟩⟩ := h
  · exact ⟨rfl, rfl⟩
  · exact ⟨rfl, rfl⟩

theorem not_own {v : Value} {g : Nat} (h : v.ownBlock = none ∨ v.ownBlock ≠ some g) : some g ≠ v.ownBlock := by
  rcases h with a | a
  · rw [a]; simp
  · exact fun e => a e.symm

set_option maxRecDepth 100000 in
set_option maxHeartbeats 400000 in
theorem write75 (w : World) (b bp bt : Nat) (next : Int) (fa fw : Bool) (allocs : Nat) (ids : List Int) (pages : List (Nat × List Int)) (freed : List Int) (vi vb vf : Value) (h : St w b bp bt next fa fw allocs ids pages freed vi vb vf)
    (id : Int) (g : Nat) (xs : List Int) (hgb : b ≤ g) (hp : PRow w g xs) (hl1 : ids.length ≤ 1000) (hl2 : pages.length ≤ 1000) :
    Calls Ybaf.prog 75 #[.pointer (some ⟨bp, 0, none⟩), .int .u64 id, .slice (some ⟨g, 0, none⟩) 4092 4092] w fun e w' => (if fw then ∃ q, e = .returned (.iface 97 q) else e = .returned .nilIface) ∧
      (∃ vi' vb', St w' b bp bt next fa fw allocs (ids ++ [id]) (pages ++ [(g, xs)]) freed vi' vb' vf) ∧ Fr b [bp] w w' := by
  obtain ⟨i23, hi, hz0, hz1, hz2⟩ := info_parts Ybaf.info23
  obtain ⟨i26, hj, hy0, hy1, hy2⟩ := info_parts Ybaf.info26
  have c4 : w.cell? ⟨bp, 4, none⟩ = some vi := h.pg.cell 4
  have HB : Hid (b ≤ w.heap.size) := h.rows.b
  have HH := Hid.mk' h
  have HP := Hid.mk' hp
  clear h hp
  obtain ⟨n1, HN1⟩ : ∃ n, Hid (n = ids.length) := ⟨_, rfl⟩
  obtain ⟨n2, HN2⟩ : ∃ n, Hid (n = pages.length) := ⟨_, rfl⟩
  rw [← HN1.out] at hl1
  rw [← HN2.out] at hl2
  go_enter Ybaf.func75, Ybaf.ntmps75
  go_wp2_with (at_builtin; refine wpList_append_own_at _ rfl _ _ 31 rfl b 23 i23 (.int .u64 0) 1 8 Ybaf.underlying31 hi hz0 hz1 hz2 rfl (by decide) vi n1 (u64s ids) rfl (by rw [HN1.out]; exact HH.out.rows.ids.alloc _) ⟨w.heap.size, 0, none⟩ 1 1 [.int .u64 id] rfl rfl (cell_one_new _ _ _) (by simp [Value.oneCell']) (maxLen_of _ (by omega)) (by omega) ?c1 ?_)
  case c1 => simp; have := HB.out; omega
  intro vi' w1 hown hg _ hv
  have hg0 : w.grownBy (w.alloc (Obj.cells #[.int .u64 id] 23)) none := grown_alloc _ _
  have rows0 := HH.out.rows.more hg0
  rw [HN1.out] at hown
  have HR1 : Hid (Rows w1 b (ids ++ [id]) pages freed vi' vb vf) := rows0.pushId hown hg (by simpa using hv)
  have HF1 : Hid (Fr b [bp] w w1) := ((Fr.refl b [bp] w).grown hg0 HB.out (fun k hk => nomatch hk)).grown hg HB.out (fun k hk => .inl (rows0.ids.lt k hk).1)
  have HP1 : Hid (PRow w1 g xs) := (HP.out.grown hg0 (by simp)).grown hg (not_own (own_ne_row rows0.ids (HP.out.grown hg0 (by simp)).row (by decide)))
  have HT1 : Hid (RowAt w1 bt 48 (trRow bp vf)) := (HH.out.tr.grown hg0 (by simp)).grown hg (not_own (own_ge rows0.ids bt HH.out.bt))
  have HQ1 : Hid (RowAt w1 bp 37 (pgRow next fa fw allocs vi vb)) := (HH.out.pg.grown hg0 (by simp)).grown hg (not_own (own_ge rows0.ids bp HH.out.bp))
  clear hg hv hg0 rows0 c4
  obtain ⟨k1, k2⟩ := own_cells hown
  clear hown
  go_wp2_with (refine wpList_store_row rfl 31 (.tmp 16) (.tmp 14) rfl rfl bp 4 vi' rfl rfl 37 _ HQ1.out Ybaf.size31 k1 k2 (by simp [pgRow]) ?_)
  intro w2 r2 g2
  have HQ2 : Hid (RowAt w2 bp 37 (pgRow next fa fw allocs vi' vb)) := r2
  have HR2 : Hid (Rows w2 b (ids ++ [id]) pages freed vi' vb vf) := HR1.out.low g2 HH.out.bp
  have HF2 : Hid (Fr b [bp] w w2) := HF1.out.grown g2 HB.out (fun k hk => by cases hk; exact .inr (by simp))
  have HP2 : Hid (PRow w2 g xs) := HP1.out.grown g2 (fun e => by cases e; have := HH.out.bp; omega)
  have HT2 : Hid (RowAt w2 bt 48 (trRow bp vf)) := HT1.out.grown g2 (fun e => by cases e; exact (RowAt.ne HQ1.out HT1.out (by decide)) rfl)
  have HB2 : Hid (b ≤ w2.heap.size) := HR2.out.b
  have c5 : w2.cell? ⟨bp, 5, none⟩ = some vb := HQ2.out.cell 5
  clear r2 g2
  go_wp2_with (at_builtin; refine wpList_append_own_at _ rfl _ _ 25 rfl b 26 i26 (.slice none 0 0) 1 24 Ybaf.underlying25 hj hy0 hy1 hy2 rfl (by decide) vb n2 (slices pages) rfl (by rw [HN2.out]; exact HR2.out.bufs.alloc _) ⟨w2.heap.size, 0, none⟩ 1 1 [.slice (some ⟨g, 0, none⟩) 4092 4092] rfl rfl (cell_one_new _ _ _) (by simp [Value.oneCell']) (maxLen_of _ (by omega)) (by omega) ?c1 ?_)
  case c1 => simp; have := HB2.out; omega
  intro vb' w3 hown hg _ hv
  have hg0 : w2.grownBy (w2.alloc (Obj.cells #[.slice (some ⟨g, 0, none⟩) 4092 4092] 26)) none := grown_alloc _ _
  have rows0 := HR2.out.more hg0
  rw [HN2.out] at hown
  have HR3 : Hid (Rows w3 b (ids ++ [id]) (pages ++ [(g, xs)]) freed vi' vb' vf) := rows0.pushPage hgb (HP2.out.grown hg0 (by simp)) hown hg
  have HF3 : Hid (Fr b [bp] w w3) := (HF2.out.grown hg0 HB.out (fun k hk => nomatch hk)).grown hg HB.out (fun k hk => .inl (rows0.bufs.lt k hk).1)
  have HT3 : Hid (RowAt w3 bt 48 (trRow bp vf)) := (HT2.out.grown hg0 (by simp)).grown hg (not_own (own_ge rows0.bufs bt HH.out.bt))
  have HQ3 : Hid (RowAt w3 bp 37 (pgRow next fa fw allocs vi' vb)) := (HQ2.out.grown hg0 (by simp)).grown hg (not_own (own_ge rows0.bufs bp HH.out.bp))
  clear hg hv hg0 rows0 c5
  obtain ⟨k3, k4⟩ := own_cells hown
  clear hown
  go_wp2_with (refine wpList_store_row rfl 25 (.tmp 26) (.tmp 24) rfl rfl bp 5 vb' rfl rfl 37 _ HQ3.out Ybaf.size25 k3 k4 (by simp [pgRow]) ?_)
  intro w4 r4 g4
  have HQ4 : Hid (RowAt w4 bp 37 (pgRow next fa fw allocs vi' vb')) := r4
  have HR4 : Hid (Rows w4 b (ids ++ [id]) (pages ++ [(g, xs)]) freed vi' vb' vf) := HR3.out.low g4 HH.out.bp
  have HF4 : Hid (Fr b [bp] w w4) := HF3.out.grown g4 HB.out (fun k hk => by cases hk; exact .inr (by simp))
  have HT4 : Hid (RowAt w4 bt 48 (trRow bp vf)) := HT3.out.grown g4 (fun e => by cases e; exact (RowAt.ne HQ3.out HT3.out (by decide)) rfl)
  have HS4 : Hid (St w4 b bp bt next fa fw allocs (ids ++ [id]) (pages ++ [(g, xs)]) freed vi' vb' vf) := ⟨HQ4.out, HT4.out, HR4.out, HH.out.bp, HH.out.bt⟩
  have c2 : w4.cell? ⟨bp, 2, none⟩ = some (.bool fw) := HQ4.out.cell 2
  clear r4 g4
  cases fw with
  | true =>
    go_wp2_with fail
    refine (errnew20 _ _).mono ?_
    rintro e w5 ⟨rfl, hg5⟩
    have HS5 : Hid (St w5 b bp bt next fa true allocs (ids ++ [id]) (pages ++ [(g, xs)]) freed vi' vb' vf) := HS4.out.more hg5
    have HF5 : Hid (Fr b [bp] w w5) := HF4.out.grown hg5 HB.out (fun k hk => nomatch hk)
    clear hg5
    go_wp2
    go_ret
    exact ⟨⟨_, rfl⟩, ⟨vi', vb', HS5.out⟩, HF5.out⟩
  | false =>
    go_wp2
    go_ret
    exact ⟨rfl, ⟨vi', vb', HS4.out⟩, HF4.out⟩

/-- 'append' in a region that draws. -/
theorem step_append_own {P : Program} {ops : Array Oper} {o : Oper} {a : Act} {w : World} {K : Act → World → Prop} {Q : Exit → Act → World → Prop} {E : Prop}
    (hgd : o.guard = none) (s x : Operand) (t : TypeId) (ho : o.op = .call { callee := .builtin .append, args := #[s, x], argTypes := #[t, t] })
    (base : Nat) (e : TypeId) (i : TypeInfo) (z : Value) (size bytes : Nat) (ht : P.underlying t = some (.slice e)) (hi : P.info? e = some i) (hz : i.zero = some z)
    (hsize : i.size = size) (hby : i.bytes = bytes) (hzs : z.cells.size = size) (hsz : 0 < size)
    (v : Value) (n : Nat) (xs : List Value) (hs : a.eval s = v) (hown : w.ownsRow base e size v n xs)
    (ad : Addr) (m c : Nat) (news : List Value) (hx : a.eval x = .slice (some ad) m c) (hl : news.length = m * size) (hnews : ∀ j u, news[j]? = some u → w.cell? (ad.add j) = some u) (h1 : ∀ u ∈ news, u.oneCell' = true)
    (h63 : n + m ≤ maxLen) (hbytes : (n + m) * bytes ≤ 140737488355328) (hbase : base ≤ w.heap.size)
    (h : ∀ v' w', w'.ownsRow base e size v' (n + m) (xs ++ news) → w.grownBy w' v.ownBlock → (v'.ownBlock = v.ownBlock ∨ v'.ownBlock = some w.heap.size) → K (a.put o.dst v') w') :
    if Region.wanted o (yielded ops a.tmps) = true then Oper.wp P o a w K Q else E := by
  have hw : Region.wanted o (yielded ops a.tmps) = true := by simp [Region.wanted, hgd]
  rw [if_pos hw]
  obtain ⟨v', w', hr, h2, h3, h4, h5⟩ := run_append_own_at (P := P) w base t o.type e i z size bytes ht hi hz hsize hby hzs hsz v n xs hown ad m c news hl hnews h1 h63 hbytes hbase
  unfold Oper.wp
  simp [execOp, ho, resolve, invoke, builtin, hs, hx, hr, Result.andThen]
  exact h v' w' h2 h3 h5

theorem row_setCell {w : World} {g off : Nat} {t : TypeId} {cur : List Value} {v : Value} (h : RowAt w g t cur) : RowAt (w.setCell ⟨g, off, none⟩ v) g t (cur.set off v) := by
  unfold RowAt at h ⊢
  have hlt := RowAt.lt h
  simp only [World.setCell, Array.getElem?_modify, if_true, h, Option.map_some]
  simp

theorem grown_setCell (w : World) (p : Addr) (v : Value) : w.grownBy (w.setCell p v) (some p.block) :=
  ⟨rfl, rfl, rfl, by simp [World.setCell], fun k _ hk => Below.heap_setCell w p v k (fun e => hk (by rw [e]))⟩

theorem row_free {w : World} {g : Nat} {t : TypeId} {cur : List Value} (h : RowAt w g t cur) (j : Nat) : w.frozen? ⟨g, j, none⟩ = false := by
  unfold RowAt at h
  simp [World.frozen?, h]

theorem own_slice {w : World} {b e : Nat} {v : Value} {n : Nat} {xs : List Value} (h : w.ownsRow b e 1 v (n + 1) xs) : ∃ g c, v = .slice (some ⟨g, 0, none⟩) (n + 1) c := by
  obtain ⟨_, ⟨_, h0⟩ | ⟨g', cap, c, rfl, _⟩⟩ := h
  · omega
  · exact ⟨_, _, rfl⟩

/-- The freed page's number, if it is one. -/
def one (id : Int) : List Int := if id = 0 then [] else [id]

set_option maxRecDepth 100000 in
set_option maxHeartbeats 400000 in
set_option linter.unusedSimpArgs false in
theorem drop15 (w : World) (b bp bt bn : Nat) (next : Int) (fa fw : Bool) (allocs : Nat) (ids : List Int) (pages : List (Nat × List Int)) (freed : List Int) (vi vb vf : Value) (h : St w b bp bt next fa fw allocs ids pages freed vi vb vf)
    (id : Int) (dirty leaf : Bool) (ks vs kids nodes : Value) (bytes : Int) (hbn : bn < b) (hn : RowAt w bn 34 (nodeRow id dirty leaf ks vs kids nodes bytes)) (hl : freed.length ≤ 1000) :
    Calls Ybaf.prog 15 #[.pointer (some ⟨bt, 0, none⟩), .pointer (some ⟨bn, 0, none⟩)] w fun e w' => e = .returned (.tuple #[]) ∧
      (∃ vf', St w' b bp bt next fa fw allocs ids pages (freed ++ one id) vi vb vf') ∧ RowAt w' bn 34 (nodeRow 0 dirty leaf ks vs kids nodes bytes) ∧ Fr b [bt, bn] w w' := by
  obtain ⟨i23, hi, hz0, hz1, hz2⟩ := info_parts Ybaf.info23
  have c0 : w.cell? ⟨bn, 0, none⟩ = some (.int .u64 id) := hn.cell 0
  have c5 : w.cell? ⟨bt, 5, none⟩ = some vf := h.tr.cell 5
  have HB : Hid (b ≤ w.heap.size) := h.rows.b
  have HH := Hid.mk' h
  have HN := Hid.mk' hn
  clear h hn
  obtain ⟨n1, HN1⟩ : ∃ n, Hid (n = freed.length) := ⟨_, rfl⟩
  rw [← HN1.out] at hl
  by_cases hid : id = 0
  · subst hid
    go_enter Ybaf.func15, Ybaf.ntmps15
    go_wp2
    refine bodyPost_end (results_none rfl _ _ _) rfl ?_
    exact ⟨rfl, ⟨vf, by simpa [one] using HH.out⟩, HN.out, Fr.refl _ _ _⟩
  · have hid' : (id != 0) = true := by simpa using hid
    have HI : Hid (one id = [id]) := by simp [one, hid, Hid]
    clear hid
    go_enter Ybaf.func15, Ybaf.ntmps15
    have hg0 : w.grownBy (w.alloc (Obj.cells #[.int .u64 id] 23)).drew none := grown_two (grown_alloc w (Obj.cells #[.int .u64 id] 23)) ⟨rfl, rfl, rfl, Nat.le_refl _, fun _ _ _ => rfl⟩ (.inl rfl) (.inl rfl)
    have hne : bt ≠ bn := RowAt.ne HH.out.tr HN.out (by decide)
    have HG0 := Hid.mk' hg0
    have HR0 : Hid (Rows (w.alloc (Obj.cells #[.int .u64 id] 23)).drew b ids pages freed vi vb vf) := HH.out.rows.more hg0
    have HT0 : Hid (RowAt (w.alloc (Obj.cells #[.int .u64 id] 23)).drew bt 48 (trRow bp vf)) := HH.out.tr.grown hg0 (by simp)
    have e5 : (w.alloc (Obj.cells #[.int .u64 id] 23)).cell? ⟨bt, 5, none⟩ = some vf := HT0.out.cell 5
    have e0 : (w.alloc (Obj.cells #[.int .u64 id] 23)).drew.cell? ⟨bn, 0, none⟩ = some (.int .u64 id) := (HN.out.grown hg0 (by simp)).cell 0
    clear hg0
    -- region
    go_wp2_with fail
    refine wp_region_held_drew (S := fun w' => w'.cell? ⟨bn, 0, none⟩ = some (.int .u64 id)) (by kernel_rfl) c0 (fun hHeld => ?_)
    refine wpAnyH_take (i := 0) (v := ?v0) rfl (by kernel_rfl) (by kernel_rfl) (by kernel_rfl) (fun _ _ _ h => h) (Or.inl ⟨by rfl, ?hy0⟩) (by assumption) ?_
    case hy0 =>
      intro w hSw
      (try dsimp only at hSw)
      go_simp
      (try with_reducible rfl)
    (try simp only [Act.put, List.setIfInBounds_toArray, List.set_cons_zero, List.set_cons_succ])
    refine wpAnyH_take (i := 1) (v := ?v1) rfl (by kernel_rfl) (by kernel_rfl) (by kernel_rfl) (fun _ _ _ h => h) (Or.inl ⟨by rfl, ?hy1⟩) (by assumption) ?_
    case hy1 =>
      intro w hSw
      (try dsimp only at hSw)
      go_simp
      (try with_reducible rfl)
    (try simp only [Act.put, List.setIfInBounds_toArray, List.set_cons_zero, List.set_cons_succ])
    refine wpAnyH_take (i := 2) (v := ?v2) rfl (by kernel_rfl) (by kernel_rfl) (by kernel_rfl) (fun _ _ _ h => h) (Or.inl ⟨by rfl, ?hy2⟩) (by assumption) ?_
    case hy2 =>
      intro w hSw
      (try dsimp only at hSw)
      go_simp
      (try with_reducible rfl)
    (try simp only [Act.put, List.setIfInBounds_toArray, List.set_cons_zero, List.set_cons_succ])
    refine wpAnyH_take (i := 3) (v := ?v3) rfl (by kernel_rfl) (by kernel_rfl) (by kernel_rfl) (fun _ _ _ h => h) (Or.inl ⟨by rfl, ?hy3⟩) (by assumption) ?_
    case hy3 =>
      intro w hSw
      (try dsimp only at hSw)
      go_simp
      (try with_reducible rfl)
    (try simp only [Act.put, List.setIfInBounds_toArray, List.set_cons_zero, List.set_cons_succ])
    refine wpAnyH_take (i := 5) (v := ?v5) rfl (by kernel_rfl) (by kernel_rfl) (by kernel_rfl) (fun _ _ _ h => h) (Or.inl ⟨by rfl, ?hy5⟩) (by assumption) ?_
    case hy5 =>
      intro w hSw
      (try dsimp only at hSw)
      go_simp
      (try with_reducible rfl)
    (try simp only [Act.put, List.setIfInBounds_toArray, List.set_cons_zero, List.set_cons_succ])
    refine wpAnyH_take (i := 6) (v := ?v6) rfl (by kernel_rfl) (by kernel_rfl) (by kernel_rfl) (fun _ _ _ h => h) (Or.inl ⟨by rfl, ?hy6⟩) (by assumption) ?_
    case hy6 =>
      intro w hSw
      (try dsimp only at hSw)
      go_simp
      (try with_reducible rfl)
    (try simp only [Act.put, List.setIfInBounds_toArray, List.set_cons_zero, List.set_cons_succ])
    refine wpAnyH_take (i := 7) (v := ?v7) rfl (by kernel_rfl) (by kernel_rfl) (by kernel_rfl) (fun _ _ _ h => h) (Or.inl ⟨by rfl, ?hy7⟩) (by assumption) ?_
    case hy7 =>
      intro w hSw
      (try dsimp only at hSw)
      go_simp
      (try with_reducible rfl)
    (try simp only [Act.put, List.setIfInBounds_toArray, List.set_cons_zero, List.set_cons_succ])
    refine wpAnyH_take (i := 8) (v := ?v8) rfl (by kernel_rfl) (by kernel_rfl) (by kernel_rfl) (fun _ _ _ h => h) (Or.inl ⟨by rfl, ?hy8⟩) (by assumption) ?_
    case hy8 =>
      intro w hSw
      (try dsimp only at hSw)
      go_simp
      (try with_reducible rfl)
    (try simp only [Act.put, List.setIfInBounds_toArray, List.set_cons_zero, List.set_cons_succ])
    refine wpAnyH_ready (rs := [4, 9]) (by kernel_rfl) (by simp) ?_
    refine AllReadyH.cons (i := 4) rfl (fun K hK => ?_) ?_
    · go_simp
      refine hK.out _ _ (by first | exact c0 | exact e0) (fun hHeld => ?_)
      clear hK K
      (try simp only [Act.put, List.setIfInBounds_toArray, List.set_cons_zero, List.set_cons_succ])
      refine wpAnyH_ready (rs := [9]) (by kernel_rfl) (by simp) ?_
      refine AllReadyH.cons (i := 9) rfl (fun K hK => ?_) AllReadyH.nil
      go_simp
      refine hK.out _ _ (by first | exact c0 | exact e0) (fun hHeld => ?_)
      clear hK K
      (try simp only [Act.put, List.setIfInBounds_toArray, List.set_cons_zero, List.set_cons_succ])
      refine wpAnyH_ready (rs := [10]) (by kernel_rfl) (by simp) ?_
      refine AllReadyH.cons (i := 10) rfl (fun K hK => ?_) AllReadyH.nil
      refine step_append_own rfl (.tmp 13) (.tmp 18) 31 rfl b 23 i23 (.int .u64 0) 1 8 Ybaf.underlying31 hi hz0 hz1 hz2 rfl (by decide) vf n1 (u64s freed) rfl (by rw [HN1.out]; exact HR0.out.freed) ⟨w.heap.size, 0, none⟩ 1 1 [.int .u64 id] rfl rfl (cell_one_new w _ _) (by simp [Value.oneCell']) (maxLen_of _ (by omega)) (by omega) HR0.out.b ?_
      intro vf' w1 hown hg1 hv1
      refine hK.out _ _ (hg1.cell e0 (not_own (own_ge HR0.out.freed bn hbn))) (fun hHeld => ?_)
      clear hK K
      (try simp only [Act.put, List.setIfInBounds_toArray, List.set_cons_zero, List.set_cons_succ])
      obtain ⟨g', c', rfl⟩ := own_slice hown
      have HT1 : Hid (RowAt w1 bt 48 (trRow bp vf)) := (HT0.out.grown hg1 (not_own (own_ge HR0.out.freed bt HH.out.bt)))
      have d5 : w1.cell? ⟨bt, 5, none⟩ = some vf := HT1.out.cell 5
      have f5 := row_free HT1.out 5
      have HR1 : Hid (Rows w1 b ids pages (freed ++ [id]) vi vb (.slice (some ⟨g', 0, none⟩) (n1 + 1) c')) := HR0.out.pushFreed (by rw [← HN1.out]; exact hown) hg1 hv1
      have HN0 : Hid (RowAt (w.alloc (Obj.cells #[.int .u64 id] 23)).drew bn 34 (nodeRow id dirty leaf ks vs kids nodes bytes)) := HN.out.grown HG0.out (by simp)
      have HN2 : Hid (RowAt w1 bn 34 (nodeRow id dirty leaf ks vs kids nodes bytes)) := HN0.out.grown hg1 (not_own (own_ge HR0.out.freed bn hbn))
      have HQ0 : Hid (RowAt (w.alloc (Obj.cells #[.int .u64 id] 23)).drew bp 37 (pgRow next fa fw allocs vi vb)) := HH.out.pg.grown HG0.out (by simp)
      have HQ2 : Hid (RowAt w1 bp 37 (pgRow next fa fw allocs vi vb)) := HQ0.out.grown hg1 (not_own (own_ge HR0.out.freed bp HH.out.bp))
      have HF1 : Hid (Fr b [bt, bn] w w1) := ((Fr.refl b [bt, bn] w).grown HG0.out HB.out (fun k hk => nomatch hk)).grown hg1 HB.out (fun k hk => .inl (HR0.out.freed.lt k hk).1)
      clear hown hg1 hv1
      refine wpAnyH_take (i := 11) (v := ?v11a) rfl (by kernel_rfl) (by kernel_rfl) (by kernel_rfl) (fun _ _ _ h => h) (Or.inl ⟨by rfl, ?hy11a⟩) (by assumption) ?_
      case hy11a =>
        intro w hSw
        (try dsimp only at hSw)
        go_simp
        (try with_reducible rfl)
      (try simp only [Act.put, List.setIfInBounds_toArray, List.set_cons_zero, List.set_cons_succ])
      refine wpAnyH_take (i := 12) (v := ?v12a) rfl (by kernel_rfl) (by kernel_rfl) (by kernel_rfl) (fun _ _ _ h => h) (Or.inl ⟨by rfl, ?hy12a⟩) (by assumption) ?_
      case hy12a =>
        intro w hSw
        (try dsimp only at hSw)
        go_simp
        (try with_reducible rfl)
      (try simp only [Act.put, List.setIfInBounds_toArray, List.set_cons_zero, List.set_cons_succ])
      refine wpAnyH_ready (rs := [13]) (by kernel_rfl) (by simp) ?_
      refine AllReadyH.cons (i := 13) rfl (fun K hK => ?_) AllReadyH.nil
      go_simp
      refine hK.out _ _ ((grown_setCell _ _ _).cell hHeld (fun e => by cases e; exact hne rfl)) (fun hHeld => ?_)
      clear hK K
      refine wpAnyH_done (by kernel_rfl) ?_ _
      have HT2 : Hid (RowAt (w1.setCell ⟨bt, 5, none⟩ (.slice (some ⟨g', 0, none⟩) (n1 + 1) c')) bt 48 (trRow bp (.slice (some ⟨g', 0, none⟩) (n1 + 1) c'))) := row_setCell HT1.out
      have hg2 := grown_setCell w1 ⟨bt, 5, none⟩ (.slice (some ⟨g', 0, none⟩) (n1 + 1) c')
      generalize w1.setCell ⟨bt, 5, none⟩ (.slice (some ⟨g', 0, none⟩) (n1 + 1) c') = w2 at *
      have HN3 : Hid (RowAt w2 bn 34 (nodeRow id dirty leaf ks vs kids nodes bytes)) := HN2.out.grown hg2 (fun e => by cases e; exact hne rfl)
      have HQ3 : Hid (RowAt w2 bp 37 (pgRow next fa fw allocs vi vb)) := HQ2.out.grown hg2 (fun e => by cases e; exact RowAt.ne HT1.out HQ2.out (by decide) rfl)
      have HR2 : Hid (Rows w2 b ids pages (freed ++ [id]) vi vb (.slice (some ⟨g', 0, none⟩) (n1 + 1) c')) := HR1.out.low hg2 HH.out.bt
      have HF2 : Hid (Fr b [bt, bn] w w2) := HF1.out.grown hg2 HB.out (fun k hk => by cases hk; exact .inr (by simp))
      clear hg2 d5 f5
      go_wp2_with (refine wpList_store_row rfl 23 (.tmp 24) (.const (.int .u64 0)) rfl rfl bn 0 (.int .u64 0) rfl rfl 34 _ HN3.out Ybaf.size23 rfl rfl (by simp [nodeRow]) ?_)
      intro w3 r3 g3
      have HS3 : Hid (St w3 b bp bt next fa fw allocs ids pages (freed ++ [id]) vi vb (.slice (some ⟨g', 0, none⟩) (n1 + 1) c')) := ⟨HQ3.out.grown g3 (fun e => by cases e; exact RowAt.ne HN3.out HQ3.out (by decide) rfl), HT2.out.grown g3 (fun e => by cases e; exact hne rfl), HR2.out.low g3 hbn, HH.out.bp, HH.out.bt⟩
      have HF3 : Hid (Fr b [bt, bn] w w3) := HF2.out.grown g3 HB.out (fun k hk => by cases hk; exact .inr (by simp))
      have HN4 : Hid (RowAt w3 bn 34 (nodeRow 0 dirty leaf ks vs kids nodes bytes)) := r3
      clear r3 g3
      go_wp2
      refine bodyPost_end (results_none rfl _ _ _) rfl ?_
      rw [HI.out]
      exact ⟨rfl, ⟨_, HS3.out⟩, HN4.out, HF3.out⟩
    refine AllReadyH.cons (i := 9) rfl (fun K hK => ?_) AllReadyH.nil
    · go_simp
      refine hK.out _ _ (by first | exact c0 | exact e0) (fun hHeld => ?_)
      clear hK K
      (try simp only [Act.put, List.setIfInBounds_toArray, List.set_cons_zero, List.set_cons_succ])
      refine wpAnyH_ready (rs := [4]) (by kernel_rfl) (by simp) ?_
      refine AllReadyH.cons (i := 4) rfl (fun K hK => ?_) AllReadyH.nil
      go_simp
      refine hK.out _ _ (by first | exact c0 | exact e0) (fun hHeld => ?_)
      clear hK K
      (try simp only [Act.put, List.setIfInBounds_toArray, List.set_cons_zero, List.set_cons_succ])
      refine wpAnyH_ready (rs := [10]) (by kernel_rfl) (by simp) ?_
      refine AllReadyH.cons (i := 10) rfl (fun K hK => ?_) AllReadyH.nil
      refine step_append_own rfl (.tmp 13) (.tmp 18) 31 rfl b 23 i23 (.int .u64 0) 1 8 Ybaf.underlying31 hi hz0 hz1 hz2 rfl (by decide) vf n1 (u64s freed) rfl (by rw [HN1.out]; exact HR0.out.freed) ⟨w.heap.size, 0, none⟩ 1 1 [.int .u64 id] rfl rfl (cell_one_new w _ _) (by simp [Value.oneCell']) (maxLen_of _ (by omega)) (by omega) HR0.out.b ?_
      intro vf' w1 hown hg1 hv1
      refine hK.out _ _ (hg1.cell e0 (not_own (own_ge HR0.out.freed bn hbn))) (fun hHeld => ?_)
      clear hK K
      (try simp only [Act.put, List.setIfInBounds_toArray, List.set_cons_zero, List.set_cons_succ])
      obtain ⟨g', c', rfl⟩ := own_slice hown
      have HT1 : Hid (RowAt w1 bt 48 (trRow bp vf)) := (HT0.out.grown hg1 (not_own (own_ge HR0.out.freed bt HH.out.bt)))
      have d5 : w1.cell? ⟨bt, 5, none⟩ = some vf := HT1.out.cell 5
      have f5 := row_free HT1.out 5
      have HR1 : Hid (Rows w1 b ids pages (freed ++ [id]) vi vb (.slice (some ⟨g', 0, none⟩) (n1 + 1) c')) := HR0.out.pushFreed (by rw [← HN1.out]; exact hown) hg1 hv1
      have HN0 : Hid (RowAt (w.alloc (Obj.cells #[.int .u64 id] 23)).drew bn 34 (nodeRow id dirty leaf ks vs kids nodes bytes)) := HN.out.grown HG0.out (by simp)
      have HN2 : Hid (RowAt w1 bn 34 (nodeRow id dirty leaf ks vs kids nodes bytes)) := HN0.out.grown hg1 (not_own (own_ge HR0.out.freed bn hbn))
      have HQ0 : Hid (RowAt (w.alloc (Obj.cells #[.int .u64 id] 23)).drew bp 37 (pgRow next fa fw allocs vi vb)) := HH.out.pg.grown HG0.out (by simp)
      have HQ2 : Hid (RowAt w1 bp 37 (pgRow next fa fw allocs vi vb)) := HQ0.out.grown hg1 (not_own (own_ge HR0.out.freed bp HH.out.bp))
      have HF1 : Hid (Fr b [bt, bn] w w1) := ((Fr.refl b [bt, bn] w).grown HG0.out HB.out (fun k hk => nomatch hk)).grown hg1 HB.out (fun k hk => .inl (HR0.out.freed.lt k hk).1)
      clear hown hg1 hv1
      refine wpAnyH_take (i := 11) (v := ?v11b) rfl (by kernel_rfl) (by kernel_rfl) (by kernel_rfl) (fun _ _ _ h => h) (Or.inl ⟨by rfl, ?hy11b⟩) (by assumption) ?_
      case hy11b =>
        intro w hSw
        (try dsimp only at hSw)
        go_simp
        (try with_reducible rfl)
      (try simp only [Act.put, List.setIfInBounds_toArray, List.set_cons_zero, List.set_cons_succ])
      refine wpAnyH_take (i := 12) (v := ?v12b) rfl (by kernel_rfl) (by kernel_rfl) (by kernel_rfl) (fun _ _ _ h => h) (Or.inl ⟨by rfl, ?hy12b⟩) (by assumption) ?_
      case hy12b =>
        intro w hSw
        (try dsimp only at hSw)
        go_simp
        (try with_reducible rfl)
      (try simp only [Act.put, List.setIfInBounds_toArray, List.set_cons_zero, List.set_cons_succ])
      refine wpAnyH_ready (rs := [13]) (by kernel_rfl) (by simp) ?_
      refine AllReadyH.cons (i := 13) rfl (fun K hK => ?_) AllReadyH.nil
      go_simp
      refine hK.out _ _ ((grown_setCell _ _ _).cell hHeld (fun e => by cases e; exact hne rfl)) (fun hHeld => ?_)
      clear hK K
      refine wpAnyH_done (by kernel_rfl) ?_ _
      have HT2 : Hid (RowAt (w1.setCell ⟨bt, 5, none⟩ (.slice (some ⟨g', 0, none⟩) (n1 + 1) c')) bt 48 (trRow bp (.slice (some ⟨g', 0, none⟩) (n1 + 1) c'))) := row_setCell HT1.out
      have hg2 := grown_setCell w1 ⟨bt, 5, none⟩ (.slice (some ⟨g', 0, none⟩) (n1 + 1) c')
      generalize w1.setCell ⟨bt, 5, none⟩ (.slice (some ⟨g', 0, none⟩) (n1 + 1) c') = w2 at *
      have HN3 : Hid (RowAt w2 bn 34 (nodeRow id dirty leaf ks vs kids nodes bytes)) := HN2.out.grown hg2 (fun e => by cases e; exact hne rfl)
      have HQ3 : Hid (RowAt w2 bp 37 (pgRow next fa fw allocs vi vb)) := HQ2.out.grown hg2 (fun e => by cases e; exact RowAt.ne HT1.out HQ2.out (by decide) rfl)
      have HR2 : Hid (Rows w2 b ids pages (freed ++ [id]) vi vb (.slice (some ⟨g', 0, none⟩) (n1 + 1) c')) := HR1.out.low hg2 HH.out.bt
      have HF2 : Hid (Fr b [bt, bn] w w2) := HF1.out.grown hg2 HB.out (fun k hk => by cases hk; exact .inr (by simp))
      clear hg2 d5 f5
      go_wp2_with (refine wpList_store_row rfl 23 (.tmp 24) (.const (.int .u64 0)) rfl rfl bn 0 (.int .u64 0) rfl rfl 34 _ HN3.out Ybaf.size23 rfl rfl (by simp [nodeRow]) ?_)
      intro w3 r3 g3
      have HS3 : Hid (St w3 b bp bt next fa fw allocs ids pages (freed ++ [id]) vi vb (.slice (some ⟨g', 0, none⟩) (n1 + 1) c')) := ⟨HQ3.out.grown g3 (fun e => by cases e; exact RowAt.ne HN3.out HQ3.out (by decide) rfl), HT2.out.grown g3 (fun e => by cases e; exact hne rfl), HR2.out.low g3 hbn, HH.out.bp, HH.out.bt⟩
      have HF3 : Hid (Fr b [bt, bn] w w3) := HF2.out.grown g3 HB.out (fun k hk => by cases hk; exact .inr (by simp))
      have HN4 : Hid (RowAt w3 bn 34 (nodeRow 0 dirty leaf ks vs kids nodes bytes)) := r3
      clear r3 g3
      go_wp2
      refine bodyPost_end (results_none rfl _ _ _) rfl ?_
      rw [HI.out]
      exact ⟨rfl, ⟨_, HS3.out⟩, HN4.out, HF3.out⟩
end Go.Proofs.YbulkciosFmt
