/-
  The events of 'LawS4227AVerify' in memory.
-/
import Derived.Test.YbulkcincAVer
import Derived.Deep.RegionHeld3
namespace Go.Proofs.Ybulkcinc
open Go.RowKit

theorem AEvAt.kept {B : Nat} {w w' : World} {v : Value} {r : AEv} {row : Option Nat} (h : AEvAt B w v r) (hg : w.grownBy w' row) (hr : ∀ k, row = some k → k ≤ B) : AEvAt B w' v r := by
  rcases h with ⟨hk, b, hv, hb, c8, c7, c9, c10, c11⟩ | ⟨hk, b, hv, hb, c6, c7⟩ | h
  · have hne : some b ≠ row := fun e => by have := hr b e.symm; omega
    exact .inl ⟨hk, b, hv, hb, hg.cell c8 hne, hg.cell c7 hne, hg.cell c9 hne, hg.cell c10 hne, hg.cell c11 hne⟩
  · have hne : some b ≠ row := fun e => by have := hr b e.symm; omega
    exact .inr (.inl ⟨hk, b, hv, hb, hg.cell c6 hne, hg.cell c7 hne⟩)
  · exact .inr (.inr h)

/-- The first k events, the slice's cells. -/
def AEvsTo (B : Nat) (w : World) (xs : List Value) (k : Nat) (R : Nat → AEv) : Prop := xs.length = k ∧ ∀ i v, xs[i]? = some v → AEvAt B w v (R i)

theorem AEvsTo.kept {B : Nat} {w w' : World} {xs : List Value} {k : Nat} {R : Nat → AEv} {row : Option Nat} (h : AEvsTo B w xs k R) (hg : w.grownBy w' row) (hr : ∀ k, row = some k → k ≤ B) : AEvsTo B w' xs k R :=
  ⟨h.1, fun i v hv => (h.2 i v hv).kept hg hr⟩

theorem AEvsTo.snoc {B : Nat} {w : World} {xs : List Value} {k : Nat} {R : Nat → AEv} {v : Value} (h : AEvsTo B w xs k R) (hv : AEvAt B w v (R k)) : AEvsTo B w (xs ++ [v]) (k + 1) R := by
  refine ⟨by simp [h.1], fun i u hu => ?_⟩
  rw [List.getElem?_append] at hu
  split at hu
  · exact h.2 i u hu
  · rename_i hi
    have hl := h.1
    have : i - xs.length = 0 := by
      rcases Nat.eq_zero_or_pos (i - xs.length) with h0 | h0
      · exact h0
      · rw [List.getElem?_eq_none (by simp; omega)] at hu; cases hu
    rw [this] at hu
    simp at hu
    subst hu
    have : i = k := by omega
    subst this
    exact hv

theorem around3 {B k : Nat} {wr w1 : World} {o1 o2 o3 : Obj} {xs : List Value} {v : Value} {R : Nat → AEv} (hevs : AEvsTo B wr xs k R)
    (hg : (((wr.alloc o1).alloc o2).alloc o3).grownBy w1 (some B)) (hv : AEvAt B (((wr.alloc o1).alloc o2).alloc o3) v (R k)) : AEvsTo B w1 (xs ++ [v]) (k + 1) R := by
  have hr : ∀ j, (none : Option Nat) = some j → j ≤ B := fun j hj => by cases hj
  have h3 := ((hevs.kept (World.grownBy_alloc wr o1 none) hr).kept (World.grownBy_alloc _ o2 none) hr).kept (World.grownBy_alloc _ o3 none) hr
  have hr' : ∀ j, some B = some j → j ≤ B := fun j hj => by cases hj; exact Nat.le_refl _
  exact (h3.kept hg hr').snoc (hv.kept hg hr')

theorem AEvsTo.at {B n : Nat} {w : World} {xs : List Value} {R : Nat → AEv} {c : Nat} (ho : w.ownsRow B 99 1 (.slice (some ⟨B, 0, none⟩) n c) n xs) (h : AEvsTo B w xs n R) : AEvsAt B w B n R := by
  intro i hi
  have hx : i < xs.length := by rw [h.1]; exact hi
  refine ⟨xs[i], ?_, h.2 i _ (List.getElem?_eq_getElem hx)⟩
  have := ho.cells (g := B) rfl i _ (List.getElem?_eq_getElem hx)
  simpa [Addr.add_lit] using this

/-- 'append' within the capacity, in a region that draws its order. -/
theorem step_append_fits {P : Program} {ops : Array Oper} {o : Oper} {a : Act} {w : World} {K : Act → World → Prop} {Q : Exit → Act → World → Prop} {E : Prop}
    (hg : o.guard = none) (s x : Operand) (t : TypeId) (hop : o.op = Op.call { callee := Callee.builtin Builtin.append, args := #[s, x], argTypes := #[t, t] })
    (base : Nat) (e : TypeId) (i : TypeInfo) (size : Nat) (h1 : P.underlying t = some (.slice e)) (h2 : P.info? e = some i) (h4 : i.size = size)
    (g k cap : Nat) (xs : List Value) (hs : a.eval s = .slice (some ⟨g, 0, none⟩) k cap) (hown : w.ownsRow base e size (.slice (some ⟨g, 0, none⟩) k cap) k xs) (ad : Addr) (m c : Nat) (news : List Value) (hx : a.eval x = .slice (some ad) m c) (hn : news.length = m * size)
    (hc : ∀ j u, news[j]? = some u → w.cell? (ad.add j) = some u) (h1c : ∀ u ∈ news, u.oneCell' = true) (b1 : k + m ≤ cap)
    (hK : ∀ w', w'.ownsRow base e size (.slice (some ⟨g, 0, none⟩) (k + m) cap) (k + m) (xs ++ news) → w.grownBy w' (some g) → K (a.put o.dst (.slice (some ⟨g, 0, none⟩) (k + m) cap)) w') :
    if Region.wanted o (yielded ops a.tmps) = true then Oper.wp P o a w K Q else E := by
  have hw : Region.wanted o (yielded ops a.tmps) = true := by simp [Region.wanted, hg]
  rw [if_pos hw]
  obtain ⟨w', hrun, r1, r2⟩ := run_append_fits (P := P) w base t o.type e i size h1 h2 h4 g k cap xs hown ad m c news hn hc h1c b1
  unfold Oper.wp
  simp [execOp, hop, resolve, invoke, builtin, hs, hx, hrun, Result.andThen]
  exact hK w' r1 r2

/-- The row of drawn events in memory. -/
def AEvRow (w : World) (a : Option Addr) (n : Nat) (E : Nat → AEv) : Prop :=
  (0 < n → ∃ b off, a = some ⟨b, off, none⟩ ∧ b < w.heap.size ∧ ∀ i, i < n →
    w.cell? ⟨b, off + i * 8, none⟩ = some (.int .u8 (E i).kind) ∧ w.cell? ⟨b, off + i * 8 + 1, none⟩ = some (.int .u8 (E i).maker) ∧
    w.cell? ⟨b, off + i * 8 + 2, none⟩ = some (.int .u8 (E i).taker) ∧ w.cell? ⟨b, off + i * 8 + 3, none⟩ = some (.int .u8 (E i).status) ∧
    w.cell? ⟨b, off + i * 8 + 4, none⟩ = some (.int .i64 (E i).qty) ∧ w.cell? ⟨b, off + i * 8 + 5, none⟩ = some (.int .i64 (E i).ex) ∧
    w.cell? ⟨b, off + i * 8 + 6, none⟩ = some (.int .i64 (E i).pr) ∧ w.cell? ⟨b, off + i * 8 + 7, none⟩ = some (.int .i64 (E i).re)) ∧
  ∀ i, i < n → (0 ≤ (E i).kind ∧ (E i).kind ≤ 255) ∧ (0 ≤ (E i).maker ∧ (E i).maker ≤ 255) ∧ (0 ≤ (E i).taker ∧ (E i).taker ≤ 255) ∧ (0 ≤ (E i).status ∧ (E i).status ≤ 255)

theorem AEvRow.below {w w' : World} {a : Option Addr} {n : Nat} {E : Nat → AEv} (h : AEvRow w a n E) (hb : Below w.heap.size w w') : AEvRow w' a n E := by
  refine ⟨fun hn => ?_, h.2⟩
  obtain ⟨b, off, ha, hlt, hc⟩ := h.1 hn
  refine ⟨b, off, ha, Nat.lt_of_lt_of_le hlt hb.size, fun i hi => ?_⟩
  obtain ⟨c0, c1, c2, c3, c4, c5, c6, c7⟩ := hc i hi
  exact ⟨cell_below hb _ _ c0, cell_below hb _ _ c1, cell_below hb _ _ c2, cell_below hb _ _ c3, cell_below hb _ _ c4, cell_below hb _ _ c5, cell_below hb _ _ c6, cell_below hb _ _ c7⟩

end Go.Proofs.Ybulkcinc
