/-
  The engine and its book while 'LawS4227AVerify' makes them.
-/
import Derived.Test.YbulkcincAVer
import Derived.Test.YbulkcincAEvs
import Derived.Test.YbulkcincAMap
import Derived.Test.YbulkcincBest
import Derived.Test.YbulkcincBLadder
import Derived.Deep.DeepCutAuto
import Derived.Deep.DeepFit
namespace Go.Proofs.Ybulkcinc
open Go.RowKit

theorem cell_putObj (w : World) (b : Nat) (o : Obj) (c j : Nat) (h : ¬ b = c) : (putObj w b o).cell? ⟨c, j, none⟩ = w.cell? ⟨c, j, none⟩ := by
  simp [putObj, World.cell?, h]

theorem heap_putObj (w : World) (b : Nat) (o : Obj) (c : Nat) (h : ¬ b = c) : (putObj w b o).heap[c]? = w.heap[c]? := by
  simp [putObj, h]

theorem below_putObj {B : Nat} {a w : World} (h : Below B a w) {b : Nat} (hb : B ≤ b) (o : Obj) : Below B a (putObj w b o) :=
  h.trans ⟨rfl, rfl, rfl, by simp [putObj], fun k hk => heap_putObj w b o k (by omega)⟩

/-- The engine: its block, the books' map, the groups' map. -/
def EngInv (w : World) (B : Nat) (wr : World) (G : ByteArray → ByteArray) (es : Array MapEntry) (cl : Nat) : Prop :=
  wr.heap[B + 2]? = some (.cells #[.map (some B), .map (some (B + 1))] 31 (0, 0)) ∧ wr.heap[B]? = some (.map es cl) ∧ GMap wr (B + 1) G ∧ Below B w wr

theorem GMap.lt {w : World} {gb : Nat} {G : ByteArray → ByteArray} (h : GMap w gb G) : gb < w.heap.size := by
  obtain ⟨es, cl, hm, _⟩ := h
  exact lt_of_block hm

theorem engine_start (w : World) (g : Nat → Grp) : EngInv w w.heap.size (((w.alloc (.map #[] 0)).alloc (.map #[] 0)).alloc (.cells #[.map (some w.heap.size), .map (some (w.heap.size + 1))] 31)) (fun s => grpTo g s 0) #[] 0 := by
  refine ⟨?_, ?_, ⟨#[], 0, ?_, fun e he => by simp at he, fun s => ⟨none, rfl, rfl⟩⟩, ?_⟩
  · have := heap_alloc_new ((w.alloc (.map #[] 0)).alloc (.map #[] 0)) (.cells #[.map (some w.heap.size), .map (some (w.heap.size + 1))] 31)
    simpa using this
  · rw [Below.heap_alloc _ _ _ (by simp; omega), Below.heap_alloc _ _ _ (by simp)]
    exact heap_alloc_new w _
  · rw [Below.heap_alloc _ _ _ (by simp)]
    have := heap_alloc_new (w.alloc (.map #[] 0)) (.map #[] 0)
    simpa using this
  · exact (((Below.refl _ _).alloc (Nat.le_refl _) _).alloc (by simp) _).alloc (by simp; omega) _

/-- A round of the first loop: a copy of the group, the store. -/
theorem EngInv.store {w wr : World} {B : Nat} {G : ByteArray → ByteArray} {es : Array MapEntry} {cl : Nat} (h : EngInv w B wr G es cl) (k v : ByteArray) (x : Obj) :
    ∃ o, (Instr.mapUpdate 29 (.map (some (B + 1))) (.string k) (.string v)).run Yba.prog (wr.alloc x).drew = .ok () (putObj (wr.alloc x).drew (B + 1) o) ∧
      EngInv w B (putObj (wr.alloc x).drew (B + 1) o) (fun s => if k = s then v else G s) es cl := by
  obtain ⟨h1, h2, h3, h4⟩ := h
  have hlt := h3.lt
  obtain ⟨o, hrun, hmap⟩ := h3.update k v
  have hsame : (wr.alloc x).drew.heap[B + 1]? = wr.heap[B + 1]? := Below.heap_alloc _ _ _ hlt
  refine ⟨o, hrun _ hsame, ?_, ?_, hmap _ (by show _ < (wr.alloc x).heap.size; simp; omega), ?_⟩
  · rw [heap_putObj _ _ _ _ (by omega)]
    exact (Below.heap_alloc _ _ _ (lt_of_block h1)).trans h1
  · rw [heap_putObj _ _ _ _ (by omega)]
    exact (Below.heap_alloc _ _ _ (lt_of_block h2)).trans h2
  · exact below_putObj (Below.drew (h4.alloc (by have := lt_of_block h2; omega) x)) (by omega) o

def symS : ByteArray := ⟨#[83]⟩

/-- The engine and the symbol while the book is made. -/
def Base (w : World) (B : Nat) (G : ByteArray → ByteArray) (sb : Nat) (d : Int) (W : World) : Prop := EngInv w B W G #[] 0 ∧ W.cell? ⟨sb, 3, none⟩ = some (.int .u8 d) ∧ B + 2 < sb

theorem GMap.heap {w w' : World} {gb : Nat} {G : ByteArray → ByteArray} (h : GMap w gb G) (hb : w'.heap[gb]? = w.heap[gb]?) : GMap w' gb G := by
  obtain ⟨es, cl, hm, r⟩ := h
  exact ⟨es, cl, hb.trans hm, r⟩

theorem EngInv.below {w W W' : World} {B : Nat} {G : ByteArray → ByteArray} {es : Array MapEntry} {cl : Nat} (h : EngInv w B W G es cl) (hb : Below W.heap.size W W') : EngInv w B W' G es cl := by
  obtain ⟨h1, h2, h3, h4⟩ := h
  exact ⟨(hb.block _ (lt_of_block h1)).trans h1, (hb.block _ (lt_of_block h2)).trans h2, h3.below hb, h4.trans (hb.mono (by have := lt_of_block h2; omega))⟩

theorem Base.below {w W W' : World} {B : Nat} {G : ByteArray → ByteArray} {sb : Nat} {d : Int} (h : Base w B G sb d W) (hb : Below W.heap.size W W') : Base w B G sb d W' :=
  ⟨h.1.below hb, cell_below hb _ _ h.2.1, h.2.2⟩

theorem Base.alloc {w W : World} {B : Nat} {G : ByteArray → ByteArray} {sb : Nat} {d : Int} (h : Base w B G sb d W) (o : Obj) : Base w B G sb d (W.alloc o) :=
  h.below ((Below.refl _ _).alloc (Nat.le_refl _) _)

theorem Base.drew {w W : World} {B : Nat} {G : ByteArray → ByteArray} {sb : Nat} {d : Int} (h : Base w B G sb d W) : Base w B G sb d W.drew :=
  h.below (Below.drew (Below.refl _ _))

/-- A ladder made meanwhile. -/
theorem ladC {w : World} {B : Nat} {G : ByteArray → ByteArray} {sb : Nat} {d : Int} (a : Option Addr) (n c : Nat) (sg : Int) (O : Nat → Ord) (h : AOrdsAt w a n O) (hn : n ≤ 1024) (hB : B = w.heap.size) (W : World) (hW : Base w B G sb d W) :
    Calls Yba.prog 8 #[.slice a n c, .int .i64 sg] W fun e w' => ∃ (al : Option Addr) (nl cl m : Nat), e = .returned (.agg #[.slice al nl cl, .map (some m), .int .i64 sg]) ∧ Base w B G sb d w' ∧ Below W.heap.size W w' ∧ nl ≤ 1024 ∧
      LevelsAt w' al nl (fun _ => ordsOf (clampO O) n) ∧ flatTo (fun _ => ordsOf (clampO O) n) nl = ordsOf (clampO O) n := by
  subst hB
  refine (ladder8_any a n c sg O W (h.below hW.1.2.2.2) hn).mono ?_
  rintro e w' ⟨al, nl, cl, rfl, hb, hnl, hl, hf⟩
  exact ⟨al, nl, cl, _, rfl, hW.below hb, hb, hnl, hl, hf⟩

/-- The store of the first book. -/
theorem upd_book (W : World) (B : Nat) (v : Value) (hm : W.heap[B]? = some (.map #[] 0)) :
    (Instr.mapUpdate 27 (.map (some B)) (.string ⟨#[83]⟩) v).run Yba.prog W = .ok () (putObj W B (.map #[⟨.string ⟨#[83]⟩, v, 0⟩] 1)) := by
  have hc := MapKept.run_checkKey (P := Yba.prog) (w := W) (k := .string ⟨#[83]⟩) Yba.underlying9 (by simp [MapKept.IsKey]) false 9999
  have hg := MapKept.run_findKey (P := Yba.prog) (w := W) (k := .string ⟨#[83]⟩) (l := []) (a := none) Yba.underlying9 rfl
  simp only [Instr.mapUpdate, Sem.run_bind, run_underlying Yba.underlying27, Result.andThen, MapKept.run_getObj_map hm, hc, hg]
  rw [MapKept.run_setObj_map _ hm]
  rfl

theorem upd_book1 {W : World} {B : Nat} (h : W.heap[B]? = some (.map #[] 0)) (o : Obj) (v : Value) :
    (Instr.mapUpdate 27 (.map (some B)) (.string ⟨#[83]⟩) v).run Yba.prog (W.alloc o) = .ok () (putObj (W.alloc o) B (.map #[⟨.string ⟨#[83]⟩, v, 0⟩] 1)) :=
  upd_book _ _ _ ((Below.heap_alloc _ _ _ (lt_of_block h)).trans h)

theorem upd_book2 {W : World} {B : Nat} (h : W.heap[B]? = some (.map #[] 0)) (o1 o2 : Obj) (v : Value) :
    (Instr.mapUpdate 27 (.map (some B)) (.string ⟨#[83]⟩) v).run Yba.prog ((W.alloc o1).alloc o2) = .ok () (putObj ((W.alloc o1).alloc o2) B (.map #[⟨.string ⟨#[83]⟩, v, 0⟩] 1)) :=
  upd_book1 ((Below.heap_alloc _ _ _ (lt_of_block h)).trans h) o2 v

/-- The engine behind the making of the book: with a book, or without. -/
def BookInv (w : World) (B : Nat) (G : ByteArray → ByteArray) (d : Int) (L1 L2 : List Ord) (hasB : Bool) (W : World) : Prop :=
  (hasB = false ∧ EngInv w B W G #[] 0) ∨
  (hasB = true ∧ ∃ (bb sb : Nat) (al1 al2 : Option Addr) (nl1 cl1 nl2 cl2 : Nat) (C1 C2 : Nat → List Ord), EngInv w B W G #[⟨.string symS, .pointer (some ⟨bb, 0, none⟩), 0⟩] 1 ∧ W.cell? ⟨sb, 3, none⟩ = some (.int .u8 d) ∧
    W.cell? ⟨bb, 0, none⟩ = some (.pointer (some ⟨sb, 0, none⟩)) ∧ W.cell? ⟨bb, 2, none⟩ = some (.slice al1 nl1 cl1) ∧ W.cell? ⟨bb, 4, none⟩ = some (.int .i64 1) ∧ W.cell? ⟨bb, 5, none⟩ = some (.slice al2 nl2 cl2) ∧
    W.cell? ⟨bb, 7, none⟩ = some (.int .i64 (-1)) ∧ nl1 ≤ 1024 ∧ nl2 ≤ 1024 ∧ LevelsAt W al1 nl1 C1 ∧ LevelsAt W al2 nl2 C2 ∧ flatTo C1 nl1 = L1 ∧ flatTo C2 nl2 = L2)

theorem BookInv.base {w W : World} {B : Nat} {G : ByteArray → ByteArray} {d : Int} {L1 L2 : List Ord} {hasB : Bool} (h : BookInv w B G d L1 L2 hasB W) : Below B w W := by
  rcases h with ⟨_, h2⟩ | ⟨_, bb, sb, al1, al2, nl1, cl1, nl2, cl2, C1, C2, hE, _⟩
  · exact h2.2.2.2
  · exact hE.2.2.2

theorem BookInv.below {w W W' : World} {B : Nat} {G : ByteArray → ByteArray} {d : Int} {L1 L2 : List Ord} {hasB : Bool} (h : BookInv w B G d L1 L2 hasB W) (hb : Below W.heap.size W W') : BookInv w B G d L1 L2 hasB W' := by
  rcases h with ⟨h1, h2⟩ | ⟨h1, bb, sb, al1, al2, nl1, cl1, nl2, cl2, C1, C2, hE, c3, c0, c2, c4, c5, c7, k1, k2, l1, l2, f1, f2⟩
  · exact .inl ⟨h1, h2.below hb⟩
  · exact .inr ⟨h1, bb, sb, al1, al2, nl1, cl1, nl2, cl2, C1, C2, hE.below hb, cell_below hb _ _ c3, cell_below hb _ _ c0, cell_below hb _ _ c2, cell_below hb _ _ c4, cell_below hb _ _ c5, cell_below hb _ _ c7, k1, k2, levels_below l1 hb, levels_below l2 hb, f1, f2⟩

theorem book_fin {w W : World} {G : ByteArray → ByteArray} {sb : Nat} {d : Int} {L1 L2 : List Ord} {al1 al2 : Option Addr} {nl1 cl1 nl2 cl2 : Nat} {C1 C2 : Nat → List Ord} (x1 x3 x6 x8 x9 x10 : Value)
    (hB : Base w w.heap.size G sb d W) (k1 : nl1 ≤ 1024) (k2 : nl2 ≤ 1024) (l1 : LevelsAt W al1 nl1 C1) (l2 : LevelsAt W al2 nl2 C2) (f1 : flatTo C1 nl1 = L1) (f2 : flatTo C2 nl2 = L2) :
    BookInv w w.heap.size G d L1 L2 true (putObj (W.alloc (.cells #[.pointer (some ⟨sb, 0, none⟩), x1, .slice al1 nl1 cl1, x3, .int .i64 1, .slice al2 nl2 cl2, x6, .int .i64 (-1), x8, x9, x10] 47)) w.heap.size
      (.map #[⟨.string symS, .pointer (some ⟨W.heap.size, 0, none⟩), 0⟩] 1)) := by
  generalize hX : Obj.cells #[.pointer (some ⟨sb, 0, none⟩), x1, .slice al1 nl1 cl1, x3, .int .i64 1, .slice al2 nl2 cl2, x6, .int .i64 (-1), x8, x9, x10] 47 = X
  have hb : Below W.heap.size W (W.alloc X) := (Below.refl _ _).alloc (Nat.le_refl _) _
  obtain ⟨⟨e1, e2, e3, e4⟩, hs, hsb⟩ := hB.below hb
  have hlt := lt_of_block hB.1.2.1
  have hX0 : (W.alloc X).heap[W.heap.size]? = some X := heap_alloc_new W X
  have hne : ∀ p v, p ≠ w.heap.size → (W.alloc X).cell? ⟨p, v, none⟩ = (putObj (W.alloc X) w.heap.size (.map #[⟨.string symS, .pointer (some ⟨W.heap.size, 0, none⟩), 0⟩] 1)).cell? ⟨p, v, none⟩ := fun p v hp => (cell_putObj _ _ _ _ _ (fun e => hp e.symm)).symm
  have hc : ∀ j, (putObj (W.alloc X) w.heap.size (.map #[⟨.string symS, .pointer (some ⟨W.heap.size, 0, none⟩), 0⟩] 1)).cell? ⟨W.heap.size, j, none⟩ = (#[.pointer (some ⟨sb, 0, none⟩), x1, .slice al1 nl1 cl1, x3, .int .i64 1, .slice al2 nl2 cl2, x6, .int .i64 (-1), x8, x9, x10] : Array Value)[j]? := fun j => by
    rw [← hne _ _ (by omega)]
    subst hX
    exact cellOf hX0 j
  have hsame : ∀ b o v, b ≠ w.heap.size → (W.alloc X).cell? ⟨b, o, none⟩ = some v → (putObj (W.alloc X) w.heap.size (.map #[⟨.string symS, .pointer (some ⟨W.heap.size, 0, none⟩), 0⟩] 1)).cell? ⟨b, o, none⟩ = some v := fun b o v hb h => (hne b o hb).symm.trans h
  have hlv : ∀ {al : Option Addr} {nl : Nat} {C : Nat → List Ord}, LevelsAt W al nl C → LevelsAt (putObj (W.alloc X) w.heap.size (.map #[⟨.string symS, .pointer (some ⟨W.heap.size, 0, none⟩), 0⟩] 1)) al nl C := by
    intro al nl C hl i hi
    have nb : ∀ b o v, W.cell? ⟨b, o, none⟩ = some v → b ≠ w.heap.size := fun b o v h e => by
      subst e
      simp [World.cell?, hB.1.2.1] at h
    obtain ⟨g, vb, hd, ha, q1, q2, q3⟩ := hl i hi
    refine ⟨g, vb, hd, ha, hsame _ _ _ (nb _ _ _ q1) (cell_below hb _ _ q1), hsame _ _ _ (nb _ _ _ q2) (cell_below hb _ _ q2), ?_⟩
    clear q1 q2
    generalize C i = l at q3
    induction l generalizing hd with
    | nil => exact q3
    | cons o r ih =>
      obtain ⟨b, nx, e, c6, c7, c8, c9, c10, c15, hr⟩ := q3
      have hn := nb _ _ _ c6
      exact ⟨b, nx, e, hsame _ _ _ hn (cell_below hb _ _ c6), hsame _ _ _ hn (cell_below hb _ _ c7), hsame _ _ _ hn (cell_below hb _ _ c8), hsame _ _ _ hn (cell_below hb _ _ c9), hsame _ _ _ hn (cell_below hb _ _ c10), hsame _ _ _ hn (cell_below hb _ _ c15), ih _ hr⟩
  refine .inr ⟨rfl, W.heap.size, sb, al1, al2, nl1, cl1, nl2, cl2, C1, C2, ⟨?_, ?_, ?_, ?_⟩, hsame _ _ _ (by omega) hs, hc 0, hc 2, hc 4, hc 5, hc 7, k1, k2, hlv l1, hlv l2, f1, f2⟩
  · rw [heap_putObj _ _ _ _ (by omega)]; exact e1
  · have hq : w.heap.size < (W.alloc X).heap.size := by simp; omega
    simp only [putObj]
    rw [Array.getElem?_setIfInBounds_self_of_lt hq]
  · exact e3.heap (heap_putObj _ _ _ _ (by omega))
  · exact below_putObj e4 (Nat.le_refl _) _

end Go.Proofs.Ybulkcinc
