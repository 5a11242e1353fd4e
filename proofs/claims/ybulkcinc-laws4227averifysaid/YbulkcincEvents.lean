/-
  'zzs4227bevents' (number 16): the events that the law draws, in memory.
-/
import Derived.Test.YbulkcincWant
namespace Go.Proofs.Ybulkcinc
open Go.RowKit

theorem Yba.info99 : (Yba.prog.info? 99).map (fun i => (i.zero, i.size, i.bytes)) = some (some .nilIface, 1, 16) := by kernel_rfl

/-- The value v is an event drawn from r: an order report lies in a block behind B. -/
def EvAt (B : Nat) (w : World) (v : Value) (r : Rep) : Prop :=
  (r.kind % 3 = 0 ∧ ∃ b, v = .iface 51 (.pointer (some ⟨b, 0, none⟩)) ∧ B < b ∧ w.cell? ⟨b, 8, none⟩ = some (.int .u8 (r.status % 8)) ∧
      w.cell? ⟨b, 7, none⟩ = some (.int .i64 r.qty) ∧ w.cell? ⟨b, 9, none⟩ = some (.int .i64 r.ex) ∧ w.cell? ⟨b, 10, none⟩ = some (.int .i64 r.pr) ∧ w.cell? ⟨b, 11, none⟩ = some (.int .i64 r.re)) ∨
  (¬ r.kind % 3 = 0 ∧ ∃ t x, v = .iface t x ∧ ¬ t = 51)

theorem EvAt.kept {B : Nat} {w w' : World} {v : Value} {r : Rep} {row : Option Nat} (h : EvAt B w v r) (hg : w.grownBy w' row) (hr : ∀ k, row = some k → k ≤ B) : EvAt B w' v r := by
  rcases h with ⟨hk, b, hv, hb, c8, c7, c9, c10, c11⟩ | h
  · have hne : some b ≠ row := fun e => by have := hr b e.symm; omega
    exact .inl ⟨hk, b, hv, hb, hg.cell c8 hne, hg.cell c7 hne, hg.cell c9 hne, hg.cell c10 hne, hg.cell c11 hne⟩
  · exact .inr h

/-- The first k events, the slice's cells. -/
def EvsTo (B : Nat) (w : World) (xs : List Value) (k : Nat) (R : Nat → Rep) : Prop := xs.length = k ∧ ∀ i v, xs[i]? = some v → EvAt B w v (R i)

theorem EvsTo.kept {B : Nat} {w w' : World} {xs : List Value} {k : Nat} {R : Nat → Rep} {row : Option Nat} (h : EvsTo B w xs k R) (hg : w.grownBy w' row) (hr : ∀ k, row = some k → k ≤ B) : EvsTo B w' xs k R :=
  ⟨h.1, fun i v hv => (h.2 i v hv).kept hg hr⟩

theorem EvsTo.snoc {B : Nat} {w : World} {xs : List Value} {k : Nat} {R : Nat → Rep} {v : Value} (h : EvsTo B w xs k R) (hv : EvAt B w v (R k)) : EvsTo B w (xs ++ [v]) (k + 1) R := by
  refine ⟨by simp [h.1], fun i u hu => ?_⟩
  rw [List.getElem?_append] at hu
  split at hu
  · exact h.2 i u hu
  · rename_i hi
    have hl := h.1
    have : i - xs.length = 0 := by
      rcases Nat.eq_zero_or_pos (i - xs.length) with h0 | h0
      · exact h0
      · rw [List.getElem?_eq_none (by simp; omega)] at hu; cases hu
    rw [this] at hu
    simp at hu
    subst hu
    have : i = k := by omega
    subst this
    exact hv

theorem below3 {B : Nat} {w wr w1 : World} {o1 o2 o3 : Obj} (hbel : Below B w wr) (hB : B < wr.heap.size) (hg : (((wr.alloc o1).alloc o2).alloc o3).grownBy w1 (some B)) : Below B w w1 ∧ B < w1.heap.size := by
  have hb := ((hbel.alloc (Nat.le_of_lt hB) o1).alloc (by simp; omega) o2).alloc (by simp; omega) o3
  refine ⟨hb.grown hg (by simp; omega) (fun k hk => by cases hk; exact Nat.le_refl _), ?_⟩
  have := hg.size
  simp at this
  omega

theorem round3 {B k : Nat} {wr w1 : World} {o1 o2 o3 : Obj} {xs : List Value} {v : Value} {R : Nat → Rep} (hevs : EvsTo B wr xs k R)
    (hg : (((wr.alloc o1).alloc o2).alloc o3).grownBy w1 (some B)) (hv : EvAt B (((wr.alloc o1).alloc o2).alloc o3) v (R k)) : EvsTo B w1 (xs ++ [v]) (k + 1) R := by
  have hr : ∀ j, (none : Option Nat) = some j → j ≤ B := fun j hj => by cases hj
  have h3 := ((hevs.kept (World.grownBy_alloc wr o1 none) hr).kept (World.grownBy_alloc _ o2 none) hr).kept (World.grownBy_alloc _ o3 none) hr
  have hr' : ∀ j, some B = some j → j ≤ B := fun j hj => by cases hj; exact Nat.le_refl _
  exact (h3.kept hg hr').snoc (hv.kept hg hr')

theorem own3 {wr : World} {o1 o2 o3 : Obj} {B k n : Nat} {xs : List Value} (h : wr.ownsRow B 99 1 (.slice (some ⟨B, 0, none⟩) k n) k xs) :
    (((wr.alloc o1).alloc o2).alloc o3).ownsRow B 99 1 (.slice (some ⟨B, 0, none⟩) k n) k xs := ((h.alloc o1).alloc o2).alloc o3

theorem cell3 (wr : World) (o1 o2 : Obj) (v : Value) (e : TypeId) : ∀ j u, [v][j]? = some u → (((wr.alloc o1).alloc o2).alloc (.cells #[v] e)).cell? ((⟨wr.heap.size + 2, 0, none⟩ : Addr).add j) = some u := by
  have h := cell_one_new ((wr.alloc o1).alloc o2) v e
  simpa using h

set_option maxRecDepth 100000 in
set_option maxHeartbeats 1000000 in
theorem events16 (a : Option Addr) (n c : Nat) (R : Nat → Rep) (w : World) (h : RepsAt w a n R) (hn : n ≤ 1024) :
    Calls Yba.prog 16 #[.slice a n c] w fun e w' => e = .returned (.slice (some ⟨w.heap.size, 0, none⟩) n n) ∧ Below w.heap.size w w' ∧ w.heap.size < w'.heap.size ∧
      ∃ xs, w'.ownsRow w.heap.size 99 1 (.slice (some ⟨w.heap.size, 0, none⟩) n n) n xs ∧ EvsTo w.heap.size w' xs n R := by
  obtain ⟨i0, hi, hz0, hz1, hz2⟩ := info_parts Yba.info99
  go_enter Yba.func16, Yba.ntmps16
  go_wp2_with (at_make; refine wpList_make_own _ rfl _ _ 48 rfl w.heap.size 99 i0 .nilIface 1 Yba.underlying48 hi hz0 hz1 _ _ _ n rfl rfl rfl ?b2 ?b3 ?b4 ?_)
  case b2 => rw [hz2]; omega
  case b3 => unfold maxLen; omega
  case b4 => exact Nat.le_refl _
  intro w0 hown0 hgrow0
  go_wp2
  go_loopw [3, 11] (fun v i wr => ∃ k : Nat, k ≤ n ∧ i = .int .i64 k ∧ v = .slice (some ⟨w.heap.size, 0, none⟩) k n ∧ Below w.heap.size w wr ∧ w.heap.size < wr.heap.size ∧
      ∃ xs, wr.ownsRow w.heap.size 99 1 (.slice (some ⟨w.heap.size, 0, none⟩) k n) k xs ∧ EvsTo w.heap.size wr xs k R) (fun _ i _ => n - (intOf i).toNat)
  case atStart => exact ⟨0, Nat.zero_le _, rfl, rfl, (Below.refl _ _).grown hgrow0 (Nat.le_refl _) (fun k hk => by cases hk), (hown0.lt _ rfl).2, [], hown0, rfl, fun i v hv => by cases hv⟩
  case round =>
    obtain ⟨k, hk, rfl, rfl, hbel, hsz, xs, hown, hevs⟩ := hrel
    by_cases hlt : k < n
    · obtain ⟨b, off, rfl, _, hc⟩ := (h.below hbel).cells (by omega)
      obtain ⟨g0, g1, g2, g3, g4, g5⟩ := hc k hlt
      obtain ⟨⟨f1, f2⟩, f3, f4⟩ := h.fits k hlt
      clear hc
      by_cases hz : (R k).kind % 3 = 0
      · go_wp2_with (at_builtin; refine wpList_append_fits _ rfl _ _ 48 rfl w.heap.size 99 i0 1 Yba.underlying48 hi hz1 w.heap.size k n xs rfl (own3 hown) ⟨wr.heap.size + 2, 0, none⟩ 1 1 [.iface 51 (.pointer (some ⟨wr.heap.size + 1, 0, none⟩))] rfl rfl (cell3 _ _ _ _ _) (by simp [Value.oneCell']) hlt ?_)
        intro w1 hown1 hgrow1
        have hb1 := below3 hbel hsz hgrow1
        have he1 := round3 hevs hgrow1 (.inl ⟨hz, wr.heap.size + 1, rfl, by omega, by simp [go_sem, World.cell?_alloc_past], by simp [go_sem, World.cell?_alloc_past], by simp [go_sem, World.cell?_alloc_past], by simp [go_sem, World.cell?_alloc_past], by simp [go_sem, World.cell?_alloc_past]⟩)
        clear hgrow1 hevs hown g0 g1 g2 g3 g4 g5
        go_wp2
        go_roundw
        case rel => exact ⟨k + 1, by omega, by go_num, rfl, hb1.1, hb1.2, _, hown1, he1⟩
        case measure => simp [intOf]; omega
      · by_cases hz1' : (R k).kind % 3 = 1
        · go_wp2_with (at_builtin; refine wpList_append_fits _ rfl _ _ 48 rfl w.heap.size 99 i0 1 Yba.underlying48 hi hz1 w.heap.size k n xs rfl (own3 hown) ⟨wr.heap.size + 2, 0, none⟩ 1 1 [.iface 58 (.pointer (some ⟨wr.heap.size + 1, 0, none⟩))] rfl rfl (cell3 _ _ _ _ _) (by simp [Value.oneCell']) hlt ?_)
          intro w1 hown1 hgrow1
          have hb1 := below3 hbel hsz hgrow1
          have he1 := round3 hevs hgrow1 (.inr ⟨hz, 58, .pointer (some ⟨wr.heap.size + 1, 0, none⟩), rfl, by decide⟩)
          clear hgrow1 hevs hown g0 g1 g2 g3 g4 g5
          go_wp2
          go_roundw
          case rel => exact ⟨k + 1, by omega, by go_num, rfl, hb1.1, hb1.2, _, hown1, he1⟩
          case measure => simp [intOf]; omega
        · go_wp2_with (at_builtin; refine wpList_append_fits _ rfl _ _ 48 rfl w.heap.size 99 i0 1 Yba.underlying48 hi hz1 w.heap.size k n xs rfl (own3 hown) ⟨wr.heap.size + 2, 0, none⟩ 1 1 [.iface 108 (.pointer (some ⟨wr.heap.size + 1, 0, none⟩))] rfl rfl (cell3 _ _ _ _ _) (by simp [Value.oneCell']) hlt ?_)
          intro w1 hown1 hgrow1
          have hb1 := below3 hbel hsz hgrow1
          have he1 := round3 hevs hgrow1 (.inr ⟨hz, 108, .pointer (some ⟨wr.heap.size + 1, 0, none⟩), rfl, by decide⟩)
          clear hgrow1 hevs hown g0 g1 g2 g3 g4 g5
          go_wp2
          go_roundw
          case rel => exact ⟨k + 1, by omega, by go_num, rfl, hb1.1, hb1.2, _, hown1, he1⟩
          case measure => simp [intOf]; omega
    · go_wp2
      go_ret
      have : k = n := by omega
      subst this
      exact ⟨rfl, hbel, hsz, xs, hown, hevs⟩

end Go.Proofs.Ybulkcinc
