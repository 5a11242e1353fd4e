/-
  The drawn orders of the book law in memory; 'zzs4227bholds' (number 19).
-/
import Derived.Test.YbulkcincLadder
namespace Go.Proofs.Ybulkcinc
open Go.RowKit

/-- The row of drawn orders in memory. -/
def OrdsAt (w : World) (a : Option Addr) (n : Nat) (O : Nat → Ord) : Prop :=
  (0 < n → ∃ b off, a = some ⟨b, off, none⟩ ∧ b < w.heap.size ∧ ∀ i, i < n →
    w.cell? ⟨b, off + i * 5, none⟩ = some (.int .i32 (O i).price) ∧ w.cell? ⟨b, off + i * 5 + 1, none⟩ = some (.int .i64 (O i).qty) ∧
    w.cell? ⟨b, off + i * 5 + 2, none⟩ = some (.int .i64 (O i).ex) ∧ w.cell? ⟨b, off + i * 5 + 3, none⟩ = some (.int .i64 (O i).pr) ∧
    w.cell? ⟨b, off + i * 5 + 4, none⟩ = some (.int .i64 (O i).re)) ∧
  ∀ i, i < n → -2147483648 ≤ (O i).price ∧ (O i).price ≤ 2147483647

theorem OrdsAt.below {w w' : World} {a : Option Addr} {n : Nat} {O : Nat → Ord} (h : OrdsAt w a n O) (hb : Below w.heap.size w w') : OrdsAt w' a n O := by
  refine ⟨fun hn => ?_, h.2⟩
  obtain ⟨b, off, ha, hlt, hc⟩ := h.1 hn
  refine ⟨b, off, ha, Nat.lt_of_lt_of_le hlt hb.size, fun i hi => ?_⟩
  obtain ⟨c0, c1, c2, c3, c4⟩ := hc i hi
  exact ⟨(hb.cell (p := ⟨b, _, none⟩) hlt).trans c0, (hb.cell (p := ⟨b, _, none⟩) hlt).trans c1, (hb.cell (p := ⟨b, _, none⟩) hlt).trans c2,
    (hb.cell (p := ⟨b, _, none⟩) hlt).trans c3, (hb.cell (p := ⟨b, _, none⟩) hlt).trans c4⟩

/-- The first n orders keep the rule. -/
def okTo (O : Nat → Ord) : Nat → Bool
  | 0 => true
  | n + 1 => okTo O n && okOrd (O n)

theorem okTo_false {O : Nat → Ord} {k n : Nat} (h : k ≤ n) (hb : okTo O k = false) : okTo O n = false := by
  induction n with
  | zero => have : k = 0 := by omega
            subst this; exact hb
  | succ n ih =>
    rcases Nat.lt_or_ge n k with hlt | hge
    · have : k = n + 1 := by omega
      subst this; exact hb
    · simp [okTo, ih hge]

set_option maxHeartbeats 1000000 in
theorem holds19 (a : Option Addr) (n c : Nat) (O : Nat → Ord) (w : World) (h : OrdsAt w a n O) (hn : n ≤ 1024) :
    Calls Yba.prog 19 #[.slice a n c] w fun e w' => e = .returned (.bool (okTo O n)) ∧ Below w.heap.size w w' := by
  go_enter Yba.func19, Yba.ntmps19
  go_wp2
  go_loopw [7] (fun i wr => ∃ k : Nat, k ≤ n ∧ i = .int .i64 k ∧ okTo O k = true ∧ Below w.heap.size w wr) (fun i _ => n - (intOf i).toNat)
  case atStart => exact ⟨0, Nat.zero_le _, rfl, rfl, Below.refl _ _⟩
  case round =>
    obtain ⟨k, hk, rfl, hb, hbel⟩ := hrel
    have HB : Hid (okTo O k = true) := hb
    clear hb
    by_cases hlt : k < n
    · obtain ⟨b, off, rfl, _, hc⟩ := (h.below hbel).1 (by omega)
      obtain ⟨g0, g1, g2, g3, g4⟩ := hc k hlt
      clear hc
      by_cases h10 : (O k).re ≤ 0
      · have HK : Hid (okTo O n = false) := okTo_false (k := k + 1) (by omega) (by simp [okTo, okOrd, show ¬ 0 < (O k).re by omega])
        go_wp2
        go_ret
        exact ⟨by rw [HK.out]; rfl, hbel.alloc hbel.size _⟩
      · have d10 : 0 < (O k).re := by omega
        have d11 : decide ((O k).re ≤ 0) = false := by simpa using h10
        by_cases hq : wrap64 (wrap64 ((O k).ex + (O k).pr) + (O k).re) = (O k).qty
        · have dq : (wrap64 (wrap64 ((O k).ex + (O k).pr) + (O k).re) != (O k).qty) = false := by simp [hq]
          have HK : Hid (okTo O (k + 1) = true) := by have := HB.out; show _ = _; simp [okTo, okOrd, d10, hq, this]
          clear hq
          go_wp2
          go_roundw
          case rel => exact ⟨k + 1, by omega, by go_num, HK.out, hbel.alloc hbel.size _⟩
          case measure => simp [intOf]; omega
        · have dq : (wrap64 (wrap64 ((O k).ex + (O k).pr) + (O k).re) != (O k).qty) = true := by simp [hq]
          have HK : Hid (okTo O n = false) := okTo_false (k := k + 1) (by omega) (by simp [okTo, okOrd, hq])
          clear hq
          go_wp2
          go_ret
          exact ⟨by rw [HK.out]; rfl, hbel.alloc hbel.size _⟩
    · go_wp2
      go_ret
      have : k = n := by omega
      subst this
      exact ⟨by rw [HB.out]; rfl, hbel⟩

end Go.Proofs.Ybulkcinc
