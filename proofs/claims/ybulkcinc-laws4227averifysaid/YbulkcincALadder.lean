/-
  'zzs4227aladder' (number 8): a ladder of one level that chains all orders.
-/
import Derived.Test.YbulkcincASmall
import Derived.Deep.RegionHeld3
namespace Go.Proofs.Ybulkcinc
open Go.RowKit

theorem chain_below {w w' : World} (hb : Below w.heap.size w w') : ∀ {l : List Ord} {a : Option Addr}, ChainAt w l a → ChainAt w' l a
  | [], _, h => h
  | o :: r, a, h => by
    obtain ⟨b, nx, e, c6, c7, c8, c9, c10, c15, hr⟩ := h
    have hlt := World.block_lt_of_cell? w _ c6
    have hc : ∀ o v, w.cell? ⟨b, o, none⟩ = some v → w'.cell? ⟨b, o, none⟩ = some v := fun o v h => (hb.cell (p := ⟨b, o, none⟩) hlt).trans h
    exact ⟨b, nx, e, hc _ _ c6, hc _ _ c7, hc _ _ c8, hc _ _ c9, hc _ _ c10, hc _ _ c15, chain_below hb hr⟩

theorem levels_below {w w' : World} {a : Option Addr} {n : Nat} {C : Nat → List Ord} (h : LevelsAt w a n C) (hb : Below w.heap.size w w') : LevelsAt w' a n C := by
  intro i hi
  obtain ⟨g, vb, hd, ha, h1, h2, h3⟩ := h i hi
  exact ⟨g, vb, hd, ha, (hb.cell (p := ⟨g, _, none⟩) (World.block_lt_of_cell? w _ h1)).trans h1, (hb.cell (p := ⟨vb, _, none⟩) (World.block_lt_of_cell? w _ h2)).trans h2, chain_below hb h3⟩

/-- A chain whose orders lie from block lo on. -/
def ChainIn (lo : Nat) (w : World) : List Ord → Option Addr → Prop
  | [], a => a = none
  | o :: r, a => ∃ b nx, lo ≤ b ∧ a = some ⟨b, 0, none⟩ ∧ w.cell? ⟨b, 6, none⟩ = some (.int .i64 o.price) ∧ w.cell? ⟨b, 7, none⟩ = some (.int .i64 o.qty) ∧ w.cell? ⟨b, 8, none⟩ = some (.int .i64 o.ex) ∧
      w.cell? ⟨b, 9, none⟩ = some (.int .i64 o.pr) ∧ w.cell? ⟨b, 10, none⟩ = some (.int .i64 o.re) ∧ w.cell? ⟨b, 15, none⟩ = some (.pointer nx) ∧ ChainIn lo w r nx

theorem chainIn_same {lo : Nat} {w w' : World} (hs : ∀ b o v, lo ≤ b → w.cell? ⟨b, o, none⟩ = some v → w'.cell? ⟨b, o, none⟩ = some v) : ∀ {l : List Ord} {a : Option Addr}, ChainIn lo w l a → ChainIn lo w' l a
  | [], _, h => h
  | o :: r, a, h => by
    obtain ⟨b, nx, hl, e, c6, c7, c8, c9, c10, c15, hr⟩ := h
    exact ⟨b, nx, hl, e, hs _ _ _ hl c6, hs _ _ _ hl c7, hs _ _ _ hl c8, hs _ _ _ hl c9, hs _ _ _ hl c10, hs _ _ _ hl c15, chainIn_same hs hr⟩

theorem chainIn_at {lo : Nat} {w : World} : ∀ {l : List Ord} {a : Option Addr}, ChainIn lo w l a → ChainAt w l a
  | [], _, h => h
  | o :: r, a, h => by
    obtain ⟨b, nx, _, e, c6, c7, c8, c9, c10, c15, hr⟩ := h
    exact ⟨b, nx, e, c6, c7, c8, c9, c10, c15, chainIn_at hr⟩

theorem cell_below {w w' : World} (hb : Below w.heap.size w w') (p : Addr) (v : Value) (h : w.cell? p = some v) : w'.cell? p = some v :=
  (hb.cell (World.block_lt_of_cell? w _ h)).trans h

/-- The order with its price clamped. -/
def clampO (O : Nat → Ord) (i : Nat) : Ord := ⟨(O i).price.tmod 1000000, (O i).qty, (O i).ex, (O i).pr, (O i).re⟩

/-- All orders, in a row. -/
def ordsOf (O : Nat → Ord) (n : Nat) : List Ord := flatTo (fun i => [O i]) n

theorem ordsOf_length (O : Nat → Ord) : ∀ n, (ordsOf O n).length = n
  | 0 => rfl
  | n + 1 => by
    have := ordsOf_length O n
    unfold ordsOf at this ⊢
    simp [flatTo, this]

theorem ordsOf_get (O : Nat → Ord) : ∀ n j, j < n → (ordsOf O n)[j]? = some (O j)
  | 0, j, h => absurd h (by omega)
  | n + 1, j, h => by
    have hl := ordsOf_length O n
    show (ordsOf O n ++ [O n])[j]? = _
    by_cases hj : j < n
    · rw [List.getElem?_append_left (by omega)]
      exact ordsOf_get O n j hj
    · have : j = n := by omega
      subst this
      rw [List.getElem?_append_right (by omega), hl]
      simp

theorem ordsOf_drop (O : Nat → Ord) (n j : Nat) (h : j < n) : (ordsOf O n).drop j = O j :: (ordsOf O n).drop (j + 1) := by
  have hl := ordsOf_length O n
  rw [List.drop_eq_getElem_cons (by omega)]
  have := ordsOf_get O n j h
  rw [List.getElem?_eq_getElem (by omega)] at this
  simp at this
  rw [this]

set_option maxRecDepth 100000 in
set_option maxHeartbeats 2000000 in
theorem ladder8 (a : Option Addr) (n c : Nat) (sg : Int) (O : Nat → Ord) (w : World) (h : AOrdsAt w a n O) (hn : n ≤ 1024) (hp : 0 < n) :
    Calls Yba.prog 8 #[.slice a n c, .int .i64 sg] w fun e w' => ∃ (al : Option Addr), e = .returned (.agg #[.slice al 1 1, .map (some (w.heap.size + 1)), .int .i64 sg]) ∧ Below w.heap.size w w' ∧
      LevelsAt w' al 1 (fun _ => ordsOf (clampO O) n) := by
  have hmm := @run_makeMap Yba.prog
  have hnz : ((n : Int) == 0) = false := beq_eq_false_iff_ne.2 (by omega)
  go_enter Yba.func8, Yba.ntmps8
  go_wp2
  go_loopg [6, 7] n (fun gk v6 v7 wr => ∃ hd, v7 = .int .i64 ((gk : Int) - 1) ∧ gk ≤ n ∧ v6 = .pointer hd ∧ ChainIn (w.heap.size + 3) wr ((ordsOf (clampO O) n).drop gk) hd ∧ w.heap.size + 2 < wr.heap.size ∧
      Below (w.heap.size + 3) (((w.alloc (.cells #[.slice none 0 0, .map none, .int .i64 0] 43)).alloc (.map #[] 0)).alloc (.cells #[.slice none 0 0, .map (some (w.heap.size + 1)), .int .i64 sg] 43)) wr)
  case atStart => exact ⟨none, rfl, Nat.le_refl _, rfl, by rw [List.drop_of_length_le (by rw [ordsOf_length]; exact Nat.le_refl _)]; rfl, by simp, Below.refl _ _⟩
  case round =>
    obtain ⟨hd, rfl, hgk, rfl, hch, hsz, hbel⟩ := hrel
    have hbw : Below w.heap.size w wr := ((((Below.refl _ _).alloc (Nat.le_refl _) _).alloc (by simp) _).alloc (by simp; omega) _).trans (hbel.mono (by omega))
    have HC : Hid (ChainIn (w.heap.size + 3) wr ((ordsOf (clampO O) n).drop gk) hd) := hch
    clear hch
    rcases Nat.eq_zero_or_pos gk with h0 | h0
    · subst h0
      have q0 : wr.cell? ⟨w.heap.size + 1 + 1, 0, none⟩ = some (.slice none 0 0) := (hbel.cell (p := ⟨w.heap.size + 1 + 1, 0, none⟩) (by simp)).trans (by simp [go_sem])
      have q1 : wr.cell? ⟨w.heap.size + 1 + 1, 1, none⟩ = some (.map (some (w.heap.size + 1))) := (hbel.cell (p := ⟨w.heap.size + 1 + 1, 1, none⟩) (by simp)).trans (by simp [go_sem])
      have q2 : wr.cell? ⟨w.heap.size + 1 + 1, 2, none⟩ = some (.int .i64 sg) := (hbel.cell (p := ⟨w.heap.size + 1 + 1, 2, none⟩) (by simp)).trans (by simp [go_sem])
      have p0 : wr.frozen? ⟨w.heap.size + 1 + 1, 0, none⟩ = false := (hbel.frozen (p := ⟨w.heap.size + 1 + 1, 0, none⟩) (by simp)).trans (by simp [go_sem])
      have s0 : wr.cell? ⟨w.heap.size, 0, none⟩ = some (.slice none 0 0) := (hbel.cell (p := ⟨w.heap.size, 0, none⟩) (by simp)).trans (by simp [go_sem, World.cell?_alloc_past])
      have s1 : wr.cell? ⟨w.heap.size, 1, none⟩ = some (.map none) := (hbel.cell (p := ⟨w.heap.size, 1, none⟩) (by simp)).trans (by simp [go_sem, World.cell?_alloc_past])
      have s2 : wr.cell? ⟨w.heap.size, 2, none⟩ = some (.int .i64 0) := (hbel.cell (p := ⟨w.heap.size, 2, none⟩) (by simp)).trans (by simp [go_sem, World.cell?_alloc_past])
      have t0 : wr.frozen? ⟨w.heap.size, 0, none⟩ = false := (hbel.frozen (p := ⟨w.heap.size, 0, none⟩) (by simp)).trans (by simp [go_sem])
      have t1 : wr.frozen? ⟨w.heap.size, 1, none⟩ = false := (hbel.frozen (p := ⟨w.heap.size, 1, none⟩) (by simp)).trans (by simp [go_sem])
      have t2 : wr.frozen? ⟨w.heap.size, 2, none⟩ = false := (hbel.frozen (p := ⟨w.heap.size, 2, none⟩) (by simp)).trans (by simp [go_sem])
      have hsz1 : w.heap.size + 1 + 1 < wr.heap.size := hsz
      have hsz2 : w.heap.size + 1 < wr.heap.size := by omega
      have hsz3 : w.heap.size < wr.heap.size := by omega
      go_wp2
      refine bodyPost_ret (v := .agg #[.slice (some ⟨wr.heap.size + 1, 0, none⟩) 1 1, .map (some (w.heap.size + 1)), .int .i64 sg]) (by simp [results, Yba.results8, go_sem, s0, s1, s2, World.cell?_alloc_past, hsz3, Nat.lt_succ_of_lt hsz3]) rfl ⟨some ⟨wr.heap.size + 1, 0, none⟩, rfl, ?_, ?_⟩
      · exact (((((hbw.setCell (by simp; omega) _).setCell (by simp) _).setCell (by simp) _).setCell (by simp) _).alloc (by simp; omega) _).alloc (by simp; omega) _
      · intro i hi
        obtain rfl : i = 0 := by omega
        refine ⟨wr.heap.size + 1, wr.heap.size, hd, rfl, by simp [go_sem], by simp [go_sem], ?_⟩
        refine chainIn_at (chainIn_same (w := wr) (lo := w.heap.size + 3) (fun b o v hb hv => ?_) HC.out)
        have hlt : b < wr.heap.size := World.block_lt_of_cell? wr _ hv
        rw [World.cell?_alloc_lt _ _ _ (by simp; omega), World.cell?_alloc_lt _ _ _ (by simpa using hlt)]
        rw [World.cell?_of_block (w := wr) (by simp only []; rw [Below.heap_setCell _ _ _ _ (by simp; omega), Below.heap_setCell _ _ _ _ (by simp; omega), Below.heap_setCell _ _ _ _ (by simp; omega), Below.heap_setCell _ _ _ _ (by simp; omega)])]
        exact hv
    · obtain ⟨j, rfl⟩ : ∃ j, gk = j + 1 := ⟨gk - 1, by omega⟩
      obtain ⟨b, off, rfl, _, hc⟩ := (h.below hbw) (by omega)
      obtain ⟨g0, g1, g2, g3, g4⟩ := hc j (by omega)
      clear hc
      have ej : (((j + 1 : Nat) : Int) - 1) = (j : Int) := by omega
      rw [ej]
      clear ej
      go_wp2_with fail
      go_region_held3 (fun w' => w'.cell? ⟨wr.heap.size, 0, none⟩ = some (.int .i64 (O j).price) ∧ w'.cell? ⟨wr.heap.size, 1, none⟩ = some (.int .i64 (O j).qty) ∧ w'.cell? ⟨wr.heap.size, 2, none⟩ = some (.int .i64 (O j).ex) ∧ w'.cell? ⟨wr.heap.size, 3, none⟩ = some (.int .i64 (O j).pr) ∧ w'.cell? ⟨wr.heap.size, 4, none⟩ = some (.int .i64 (O j).re)) (simp [go_sem, World.cell?_alloc_past])
        (first | (go_at_call 10; refine (clamp10 _ _).mono ?_; rintro e w' ⟨rfl, rfl⟩))
      go_wp2
      go_roundg j
      case rel =>
        refine ⟨some ⟨wr.heap.size + 1, 0, none⟩, rfl, by omega, rfl, ?_, ?_, ?_⟩
        · rw [ordsOf_drop _ _ _ (by omega)]
          refine ⟨wr.heap.size + 1, hd, by omega, rfl, by simp [go_sem, clampO], by simp [go_sem, clampO], by simp [go_sem, clampO], by simp [go_sem, clampO], by simp [go_sem, clampO], by simp [go_sem], ?_⟩
          exact chainIn_same (fun b o v _ hv => cell_below (Below.drew (((Below.refl _ _).alloc (Nat.le_refl _) _).alloc (by simp) _)) _ v hv) HC.out
        · simp; omega
        · exact Below.drew ((hbel.alloc (by omega) _).alloc (by simp; omega) _)
      case measure => omega

set_option maxRecDepth 100000 in
set_option maxHeartbeats 1000000 in
theorem ladder8_none (a : Option Addr) (c : Nat) (sg : Int) (w : World) :
    Calls Yba.prog 8 #[.slice a 0 c, .int .i64 sg] w fun e w' => e = .returned (.agg #[.slice none 0 0, .map (some (w.heap.size + 1)), .int .i64 sg]) ∧ Below w.heap.size w w' := by
  have hmm := @run_makeMap Yba.prog
  go_enter Yba.func8, Yba.ntmps8
  go_wp2
  exact bodyPost_ret (v := .agg #[.slice none 0 0, .map (some (w.heap.size + 1)), .int .i64 sg]) (by simp [results, Yba.results8, go_sem, World.cell?_alloc_past]) rfl
    ⟨rfl, by repeat (first | exact Below.refl _ _ | refine Below.setCell ?_ (by simp) _ | refine Below.alloc ?_ (by first | (simp; done) | (simp; omega)) _)⟩

/-- Whatever the number of orders. -/
theorem ladder8_any (a : Option Addr) (n c : Nat) (sg : Int) (O : Nat → Ord) (w : World) (h : AOrdsAt w a n O) (hn : n ≤ 1024) :
    Calls Yba.prog 8 #[.slice a n c, .int .i64 sg] w fun e w' => ∃ (al : Option Addr) (nl cl : Nat), e = .returned (.agg #[.slice al nl cl, .map (some (w.heap.size + 1)), .int .i64 sg]) ∧ Below w.heap.size w w' ∧
      nl ≤ 1024 ∧ LevelsAt w' al nl (fun _ => ordsOf (clampO O) n) ∧ flatTo (fun _ => ordsOf (clampO O) n) nl = ordsOf (clampO O) n := by
  rcases Nat.eq_zero_or_pos n with h0 | h0
  · subst h0
    refine (ladder8_none a c sg w).mono ?_
    rintro e w' ⟨rfl, hb⟩
    exact ⟨none, 0, 0, rfl, hb, by omega, fun i hi => absurd hi (by omega), rfl⟩
  · refine (ladder8 a n c sg O w h hn h0).mono ?_
    rintro e w' ⟨al, rfl, hb, hl⟩
    exact ⟨al, 1, 1, rfl, hb, by omega, hl, by simp [flatTo]⟩

end Go.Proofs.Ybulkcinc
