/-
  'zzs4227bladder' (number 18): a ladder with one order a level.
-/
import Derived.Test.YbulkcincHolds
namespace Go.Proofs.Ybulkcinc
open Go.RowKit

theorem Yba.info92 : (Yba.prog.info? 92).map (fun i => (i.zero, i.size, i.bytes)) = some (some (.pointer none), 1, 8) := by kernel_rfl

/-- The value v leads to a level that holds the order o alone. -/
def LvAt (w : World) (v : Value) (o : Ord) : Prop :=
  ∃ (vb ob : Nat) (cv co : Array Value), v = .pointer (some ⟨vb, 0, none⟩) ∧ w.heap[vb]? = some (.cells cv 96 (0, 0)) ∧ w.heap[ob]? = some (.cells co 94 (0, 0)) ∧ cv[1]? = some (.pointer (some ⟨ob, 0, none⟩)) ∧
    co[6]? = some (.int .i64 o.price) ∧ co[7]? = some (.int .i64 o.qty) ∧ co[8]? = some (.int .i64 o.ex) ∧ co[9]? = some (.int .i64 o.pr) ∧ co[10]? = some (.int .i64 o.re) ∧ co[15]? = some (.pointer none)

theorem LvAt.same {w w' : World} {v : Value} {o : Ord} (h : LvAt w v o) (hs : ∀ (b : Nat) (e : TypeId) (cur : Array Value), w.heap[b]? = some (Obj.cells cur e (0, 0)) → (e = 96 ∨ e = 94) → w'.heap[b]? = w.heap[b]?) : LvAt w' v o := by
  obtain ⟨vb, ob, cv, co, hv, h1, h2, r⟩ := h
  exact ⟨vb, ob, cv, co, hv, (hs _ _ _ h1 (.inl rfl)).trans h1, (hs _ _ _ h2 (.inr rfl)).trans h2, r⟩

def LvsTo (w : World) (xs : List Value) (k : Nat) (O : Nat → Ord) : Prop := xs.length = k ∧ ∀ i v, xs[i]? = some v → LvAt w v (O i)

theorem LvsTo.same {w w' : World} {xs : List Value} {k : Nat} {O : Nat → Ord} (h : LvsTo w xs k O) (hs : ∀ (b : Nat) (e : TypeId) (cur : Array Value), w.heap[b]? = some (Obj.cells cur e (0, 0)) → (e = 96 ∨ e = 94) → w'.heap[b]? = w.heap[b]?) : LvsTo w' xs k O :=
  ⟨h.1, fun i v hv => (h.2 i v hv).same hs⟩

theorem LvsTo.snoc {w : World} {xs : List Value} {k : Nat} {O : Nat → Ord} {v : Value} (h : LvsTo w xs k O) (hv : LvAt w v (O k)) : LvsTo w (xs ++ [v]) (k + 1) O := by
  refine ⟨by simp [h.1], fun i u hu => ?_⟩
  rw [List.getElem?_append] at hu
  split at hu
  · exact h.2 i u hu
  · rename_i hi
    have hl := h.1
    have : i - xs.length = 0 := by
      rcases Nat.eq_zero_or_pos (i - xs.length) with h0 | h0
      · exact h0
      · rw [List.getElem?_eq_none (by simp; omega)] at hu; cases hu
    rw [this] at hu
    simp at hu
    subst hu
    have : i = k := by omega
    subst this
    exact hv

/-- What the loop holds. -/
def LadInv (w : World) (B : Nat) (sg : Int) (O : Nat → Ord) (wr : World) (k : Nat) (v : Value) : Prop :=
  ∃ xs, wr.heap[B]? = some (.cells #[.slice none 0 0, .map none, .int .i64 0] 43 (0, 0)) ∧ wr.heap[B + 2]? = some (.cells #[v, .map (some (B + 1)), .int .i64 sg] 43 (0, 0)) ∧
    wr.ownsRow (B + 3) 92 1 v k xs ∧ LvsTo wr xs k O ∧ Below B w wr ∧ B + 2 < wr.heap.size

theorem cellOf {w : World} {b : Nat} {cur : Array Value} {e : TypeId} (h : w.heap[b]? = some (.cells cur e (0, 0))) (j : Nat) : w.cell? ⟨b, j, none⟩ = cur[j]? := by
  rw [cell_of_row w b j cur e (0, 0) h]

theorem freeOf {w : World} {b : Nat} {cur : Array Value} {e : TypeId} (h : w.heap[b]? = some (.cells cur e (0, 0))) (j : Nat) : w.frozen? ⟨b, j, none⟩ = false := by
  simp [World.frozen?, h]

theorem setCell_block {w : World} {b : Nat} {cur : Array Value} {e : TypeId} (h : w.heap[b]? = some (.cells cur e (0, 0))) (j : Nat) (u : Value) : (w.setCell ⟨b, j, none⟩ u).heap[b]? = some (.cells (cur.setIfInBounds j u) e (0, 0)) := by
  simp [World.setCell, Array.getElem?_modify, h]

/-- A block that is no row of the levels stays. -/
theorem stays4 {wr w1 W4 : World} {v : Value} {B k : Nat} {xs : List Value} (hown : W4.ownsRow B 92 1 v k xs) (hg : W4.grownBy w1 v.ownBlock) (hlt : wr.heap.size ≤ W4.heap.size) (hold : ∀ j, j < wr.heap.size → W4.heap[j]? = wr.heap[j]?)
    {b : Nat} {cur : Array Value} {e : TypeId} (hb : wr.heap[b]? = some (.cells cur e (0, 0))) (he : ¬ e = 92) : w1.heap[b]? = wr.heap[b]? := by
  have hbl := lt_of_block hb
  rw [hg.block b (by omega) ?_, hold b hbl]
  intro e1
  rcases hown.2 with ⟨rfl, _⟩ | ⟨g, cap, cu, rfl, _, hgg, _⟩
  · simp [Value.ownBlock] at e1
  · simp [Value.ownBlock] at e1
    subst e1
    rw [hold b hbl, hb] at hgg
    simp at hgg
    exact he hgg.2

/-- One round: the copy, the order, the level, the one-cell block; the append; the store into the ladder's field. -/
theorem LadInv.step {w wr w1 : World} {B k : Nat} {sg : Int} {O : Nat → Ord} {v v' : Value} {o1 o4 : Obj} {co cv : Array Value} {xs : List Value}
    (hB : wr.heap[B]? = some (.cells #[.slice none 0 0, .map none, .int .i64 0] 43 (0, 0))) (hB2 : wr.heap[B + 2]? = some (.cells #[v, .map (some (B + 1)), .int .i64 sg] 43 (0, 0)))
    (hown : wr.ownsRow (B + 3) 92 1 v k xs) (hlv : LvsTo wr xs k O) (hbel : Below B w wr) (hsz : B + 2 < wr.heap.size)
    (hg : ((((wr.alloc o1).alloc (.cells co 94)).alloc (.cells cv 96)).alloc o4).grownBy w1 v.ownBlock)
    (hown1 : w1.ownsRow (B + 3) 92 1 v' (k + 1) (xs ++ [.pointer (some ⟨wr.heap.size + 2, 0, none⟩)]))
    (hcv : cv[1]? = some (.pointer (some ⟨wr.heap.size + 1, 0, none⟩)))
    (hco : co[6]? = some (.int .i64 (O k).price) ∧ co[7]? = some (.int .i64 (O k).qty) ∧ co[8]? = some (.int .i64 (O k).ex) ∧ co[9]? = some (.int .i64 (O k).pr) ∧ co[10]? = some (.int .i64 (O k).re) ∧ co[15]? = some (.pointer none)) :
    w1.heap[B + 2]? = some (.cells #[v, .map (some (B + 1)), .int .i64 sg] 43 (0, 0)) ∧ LadInv w B sg O (w1.setCell ⟨B + 2, 0, none⟩ v') (k + 1) v' := by
  have hown4 := (((hown.alloc o1).alloc (.cells co 94)).alloc (.cells cv 96)).alloc o4
  have hs4 : wr.heap.size + 4 = ((((wr.alloc o1).alloc (.cells co 94)).alloc (.cells cv 96)).alloc o4).heap.size := by simp
  have hold : ∀ j, j < wr.heap.size → ((((wr.alloc o1).alloc (.cells co 94)).alloc (.cells cv 96)).alloc o4).heap[j]? = wr.heap[j]? := by
    intro j hj
    rw [Below.heap_alloc _ _ _ (by simp; omega), Below.heap_alloc _ _ _ (by simp; omega), Below.heap_alloc _ _ _ (by simp; omega), Below.heap_alloc _ _ _ hj]
  have n1 : ((((wr.alloc o1).alloc (.cells co 94)).alloc (.cells cv 96)).alloc o4).heap[wr.heap.size + 1]? = some (.cells co 94 (0, 0)) := by
    rw [Below.heap_alloc _ _ _ (by simp), Below.heap_alloc _ _ _ (by simp)]
    have := heap_alloc_new (wr.alloc o1) (.cells co 94)
    simpa using this
  have n2 : ((((wr.alloc o1).alloc (.cells co 94)).alloc (.cells cv 96)).alloc o4).heap[wr.heap.size + 2]? = some (.cells cv 96 (0, 0)) := by
    rw [Below.heap_alloc _ _ _ (by simp)]
    have := heap_alloc_new ((wr.alloc o1).alloc (.cells co 94)) (.cells cv 96)
    simpa using this
  have m1 := (stays4 hown4 hg (Nat.le_refl _) (fun _ _ => rfl) n1 (by decide)).trans n1
  have m2 := (stays4 hown4 hg (Nat.le_refl _) (fun _ _ => rfl) n2 (by decide)).trans n2
  have sB := (stays4 hown4 hg (by omega) hold hB (by decide)).trans hB
  have sB2 := (stays4 hown4 hg (by omega) hold hB2 (by decide)).trans hB2
  have hs1 : wr.heap.size + 4 ≤ w1.heap.size := by have := hg.size; omega
  have hbel1 : Below B w w1 := by
    have hb4 := (((hbel.alloc (by omega) o1).alloc (by simp; omega) (.cells co 94)).alloc (by simp; omega) (.cells cv 96)).alloc (by simp; omega) o4
    refine hb4.grown hg (by omega) (fun j hj => ?_)
    have := (hown4.lt j hj).1
    omega
  have lv1 : LvsTo w1 xs k O := hlv.same fun b e cur hb he => stays4 hown4 hg (by omega) hold hb (by rcases he with rfl | rfl <;> decide)
  have lv2 : LvsTo w1 (xs ++ [.pointer (some ⟨wr.heap.size + 2, 0, none⟩)]) (k + 1) O :=
    lv1.snoc ⟨wr.heap.size + 2, wr.heap.size + 1, cv, co, rfl, m2, m1, hcv, hco⟩
  have other : ∀ j, j ≠ B + 2 → (w1.setCell ⟨B + 2, 0, none⟩ v').heap[j]? = w1.heap[j]? := fun j hj => Below.heap_setCell _ _ _ _ hj
  refine ⟨sB2, xs ++ [.pointer (some ⟨wr.heap.size + 2, 0, none⟩)], (other B (by omega)).trans sB, ?_, ?_, ?_, hbel1.setCell (by simp) _, by simp [World.setCell]; omega⟩
  · have := setCell_block sB2 0 v'
    simpa using this
  · exact ownsRow_setCell_below hown1 (by simp) _
  · refine lv2.same fun b e cur hb he => other b fun e1 => ?_
    subst e1
    rw [sB2] at hb
    simp at hb
    rcases he with rfl | rfl <;> simp at hb

theorem LvsTo.levels {w : World} {B n g c : Nat} {xs : List Value} {O : Nat → Ord} (h : LvsTo w xs n O) (ho : w.ownsRow B 92 1 (.slice (some ⟨g, 0, none⟩) n c) n xs) : LevelsAt w (some ⟨g, 0, none⟩) n (fun i => [O i]) := by
  intro i hi
  have hx : i < xs.length := by rw [h.1]; exact hi
  obtain ⟨vb, ob, cv, co, hv, h1, h2, hcv, c6, c7, c8, c9, c10, c15⟩ := h.2 i _ (List.getElem?_eq_getElem hx)
  have hc := ho.cells (g := g) rfl i _ (List.getElem?_eq_getElem hx)
  rw [hv] at hc
  refine ⟨g, vb, some ⟨ob, 0, none⟩, rfl, by simpa [Addr.add_lit] using hc, (cellOf h1 1).trans hcv, ob, none, rfl, (cellOf h2 6).trans c6, (cellOf h2 7).trans c7, (cellOf h2 8).trans c8, (cellOf h2 9).trans c9, (cellOf h2 10).trans c10, (cellOf h2 15).trans c15, rfl⟩

theorem cell4 (wr : World) (o1 o2 o3 : Obj) (v : Value) (e : TypeId) : ∀ j u, [v][j]? = some u → ((((wr.alloc o1).alloc o2).alloc o3).alloc (.cells #[v] e)).cell? ((⟨wr.heap.size + 3, 0, none⟩ : Addr).add j) = some u := by
  have h := cell_one_new (((wr.alloc o1).alloc o2).alloc o3) v e
  simpa using h

/-- The ladder is copied into the result's own variable. -/
theorem LvsTo.copied {wr : World} {B k : Nat} {xs : List Value} {O : Nat → Ord} {c0 x0 x1 x2 v : Value} {c1 c2 : Value} (hB : wr.heap[B]? = some (.cells #[c0, c1, c2] 43 (0, 0))) (hlv : LvsTo wr xs k O) (hown : wr.ownsRow (B + 3) 92 1 v k xs) :
    LvsTo (((wr.setCell ⟨B, 0, none⟩ x0).setCell ⟨B, 1, none⟩ x1).setCell ⟨B, 2, none⟩ x2) xs k O ∧ (((wr.setCell ⟨B, 0, none⟩ x0).setCell ⟨B, 1, none⟩ x1).setCell ⟨B, 2, none⟩ x2).ownsRow (B + 3) 92 1 v k xs := by
  refine ⟨hlv.same fun b e cur hb he => ?_, ownsRow_setCell_below (ownsRow_setCell_below (ownsRow_setCell_below hown (by simp) _) (by simp) _) (by simp) _⟩
  have hne : b ≠ B := fun e1 => by
    subst e1
    rw [hB] at hb
    simp at hb
    rcases he with rfl | rfl <;> simp at hb
  rw [Below.heap_setCell _ _ _ _ hne, Below.heap_setCell _ _ _ _ hne, Below.heap_setCell _ _ _ _ hne]

theorem start18 (w : World) (sg : Int) (O : Nat → Ord) : LadInv w w.heap.size sg O (((w.alloc (.cells #[.slice none 0 0, .map none, .int .i64 0] 43)).alloc (.map #[] 0)).alloc (.cells #[.slice none 0 0, .map (some (w.heap.size + 1)), .int .i64 sg] 43)) 0 (.slice none 0 0) := by
  refine ⟨[], ?_, ?_, World.ownsRow_nil _ _ _ _, ⟨rfl, fun i v hv => by cases hv⟩, (((Below.refl _ _).alloc (Nat.le_refl _) _).alloc (by simp) _).alloc (by simp; omega) _, by simp⟩
  · rw [Below.heap_alloc _ _ _ (by simp; omega), Below.heap_alloc _ _ _ (by simp)]
    exact heap_alloc_new w _
  · have := heap_alloc_new ((w.alloc (.cells #[.slice none 0 0, .map none, .int .i64 0] 43)).alloc (.map #[] 0)) (.cells #[.slice none 0 0, .map (some (w.heap.size + 1)), .int .i64 sg] 43)
    simpa using this

set_option maxRecDepth 100000 in
set_option maxHeartbeats 1000000 in
theorem ladder18 (a : Option Addr) (n c : Nat) (sg : Int) (O : Nat → Ord) (w : World) (h : OrdsAt w a n O) (hn : n ≤ 1024) :
    Calls Yba.prog 18 #[.slice a n c, .int .i64 sg] w fun e w' => ∃ (al : Option Addr) (cl : Nat), e = .returned (.agg #[.slice al n cl, .map (some (w.heap.size + 1)), .int .i64 sg]) ∧ Below w.heap.size w w' ∧
      LevelsAt w' al n (fun i => [O i]) := by
  obtain ⟨i0, hi, hz0, hz1, hz2⟩ := info_parts Yba.info92
  have hmm := @run_makeMap Yba.prog
  go_enter Yba.func18, Yba.ntmps18
  go_wp2
  go_loopw [14] (fun i wr => ∃ (k : Nat) (v : Value), k ≤ n ∧ i = .int .i64 k ∧ LadInv w w.heap.size sg O wr k v) (fun i _ => n - (intOf i).toNat)
  case atStart => exact ⟨0, .slice none 0 0, Nat.zero_le _, rfl, start18 w sg O⟩
  case round =>
    obtain ⟨k, v, hk, rfl, hinv⟩ := hrel
    have hinv' := hinv
    obtain ⟨xs, hB, hB2, hown, hlv, hbel, hsz⟩ := hinv'
    have q0 : wr.cell? ⟨w.heap.size + 1 + 1, 0, none⟩ = some v := cellOf hB2 0
    have hsz1 : w.heap.size + 1 + 1 < wr.heap.size := hsz
    have hsz2 : w.heap.size + 1 < wr.heap.size := by omega
    have hsz3 : w.heap.size < wr.heap.size := by omega
    by_cases hlt : k < n
    · obtain ⟨b, off, rfl, _, hc⟩ := (h.below hbel).1 (by omega)
      obtain ⟨g0, g1, g2, g3, g4⟩ := hc k hlt
      clear hc
      have hlv' : Hid (LvsTo wr xs k O) := hlv
      have HB : Hid (wr.heap[w.heap.size]? = some (.cells #[.slice none 0 0, .map none, .int .i64 0] 43 (0, 0))) := hB
      have HB2 : Hid (wr.heap[w.heap.size + 2]? = some (.cells #[v, .map (some (w.heap.size + 1)), .int .i64 sg] 43 (0, 0))) := hB2
      clear hB hB2 hlv
      obtain ⟨p1, p2⟩ := h.2 k hlt
      go_wp2_with (at_builtin; refine wpList_append_own _ rfl _ _ 40 rfl (w.heap.size + 3) 92 i0 (.pointer none) 1 8 Yba.underlying40 hi hz0 hz1 hz2 rfl (by decide) _ _ _ rfl ((((hown.alloc _).alloc _).alloc _).alloc _) ⟨wr.heap.size + 3, 0, none⟩ 1 1 [.pointer (some ⟨wr.heap.size + 2, 0, none⟩)] rfl rfl ?c1 ?c2 ?c3 ?c4 ?c5 ?_)
      case c1 => exact cell4 _ _ _ _ _ _
      case c2 => simp [Value.oneCell']
      case c3 => unfold maxLen; omega
      case c4 => omega
      case c5 => simp; omega
      intro v' w1 hown1 hgrow1 _
      obtain ⟨hl2, hinv1⟩ := LadInv.step HB.out HB2.out hown hlv'.out hbel hsz hgrow1 hown1 rfl ⟨rfl, rfl, rfl, rfl, rfl, rfl⟩
      obtain ⟨g', cap', hv'⟩ : ∃ g' cap', v' = .slice (some ⟨g', 0, none⟩) (k + 1) cap' := by
        rcases hown1.2 with ⟨_, h0⟩ | ⟨g', cap', _, hv, _⟩
        · omega
        · exact ⟨g', cap', hv⟩
      subst hv'
      have r0 : w1.cell? ⟨w.heap.size + 1 + 1, 0, none⟩ = some v := cellOf hl2 0
      have r1 : w1.frozen? ⟨w.heap.size + 1 + 1, 0, none⟩ = false := freeOf hl2 0
      clear hl2 hgrow1 hown1 hown HB HB2 hlv' hinv q0 g0 g1 g2 g3 g4
      go_wp2
      go_roundw
      case rel => exact ⟨k + 1, _, by omega, by go_num, hinv1⟩
      case measure => simp [intOf]; omega
    · have : k = n := by omega
      subst this
      have q1 : wr.cell? ⟨w.heap.size + 1 + 1, 1, none⟩ = some (.map (some (w.heap.size + 1))) := cellOf hB2 1
      have q2 : wr.cell? ⟨w.heap.size + 1 + 1, 2, none⟩ = some (.int .i64 sg) := cellOf hB2 2
      have s0 : wr.cell? ⟨w.heap.size, 0, none⟩ = some (.slice none 0 0) := cellOf hB 0
      have s1 : wr.cell? ⟨w.heap.size, 1, none⟩ = some (.map none) := cellOf hB 1
      have s2 : wr.cell? ⟨w.heap.size, 2, none⟩ = some (.int .i64 0) := cellOf hB 2
      have t0 : wr.frozen? ⟨w.heap.size, 0, none⟩ = false := freeOf hB 0
      have t1 : wr.frozen? ⟨w.heap.size, 1, none⟩ = false := freeOf hB 1
      have t2 : wr.frozen? ⟨w.heap.size, 2, none⟩ = false := freeOf hB 2
      have HB : Hid (wr.heap[w.heap.size]? = some (.cells #[.slice none 0 0, .map none, .int .i64 0] 43 (0, 0))) := hB
      have HL : Hid (LvsTo wr xs k O) := hlv
      clear hB hB2 hinv hlv
      rcases hown.2 with ⟨rfl, rfl⟩ | ⟨g, cap, cur, rfl, hb0, hgg, _⟩
      · go_wp2
        exact bodyPost_ret (v := .agg #[.slice none 0 0, .map (some (w.heap.size + 1)), .int .i64 sg]) (by simp [results, Yba.results18, go_sem, s0, s1, s2]) rfl
          ⟨none, 0, rfl, ((hbel.setCell (by simp) _).setCell (by simp) _).setCell (by simp) _, fun i hi => absurd hi (by omega)⟩
      · clear hgg
        go_wp2
        exact bodyPost_ret (v := .agg #[.slice (some ⟨g, 0, none⟩) k cap, .map (some (w.heap.size + 1)), .int .i64 sg]) (by simp [results, Yba.results18, go_sem, s0, s1, s2]) rfl
          ⟨some ⟨g, 0, none⟩, cap, rfl, ((hbel.setCell (by simp) _).setCell (by simp) _).setCell (by simp) _, (LvsTo.copied HB.out HL.out hown).1.levels (LvsTo.copied HB.out HL.out hown).2⟩

end Go.Proofs.Ybulkcinc
