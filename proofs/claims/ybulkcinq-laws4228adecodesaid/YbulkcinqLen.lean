/-
  'zzs4228alen' (number 7) and 'LawS4228ALength' (number 4).
-/
import Derived.Test.YbulkcinqAppend
namespace Go.Proofs.Ybulkcinq
open Go.RowKit

theorem small_iff (v : Int) (k : Nat) : small v k ↔ -2 ^ (8 * k - 1) ≤ v ∧ v < 2 ^ (8 * k - 1) := by
  have hp : (0 : Int) < 2 ^ (8 * k - 1) := Int.pow_pos (by decide)
  unfold small
  have h1 := @Int.le_ediv_iff_mul_le (-1) v (2 ^ (8 * k - 1)) hp
  have h2 := @Int.ediv_lt_iff_lt_mul v 1 (2 ^ (8 * k - 1)) hp
  generalize v / 2 ^ (8 * k - 1) = q at *
  constructor
  · intro h
    refine ⟨?_, ?_⟩
    · have := h1.mp (by omega); omega
    · have := h2.mp (by omega); omega
  · rintro ⟨a, b⟩
    have := h1.mpr (by omega)
    have := h2.mpr (by omega)
    omega

theorem wrap_pow (k : Nat) (h1 : 1 ≤ k) (h7 : k < 8) : wrap64 (2 ^ (8 * k - 1)) = 2 ^ (8 * k - 1) ∧ wrap64 (-2 ^ (8 * k - 1)) = -2 ^ (8 * k - 1) := by
  obtain rfl | rfl | rfl | rfl | rfl | rfl | rfl : k = 1 ∨ k = 2 ∨ k = 3 ∨ k = 4 ∨ k = 5 ∨ k = 6 ∨ k = 7 := by omega
  all_goals decide +kernel

theorem own_cell {w : World} {b g n m cap : Nat} {e : TypeId} {xs : List Value} (h : w.ownsRow b e 1 (.slice (some ⟨g, 0, none⟩) m cap) n xs) (j : Nat) (u : Value) (hj : xs[j]? = some u) : w.cell? ⟨g, j, none⟩ = some u := by
  obtain ⟨_, ⟨h, _⟩ | ⟨g', cap', cur, h, _, hg, _, _, _, rfl⟩⟩ := h
  · cases h
  · cases h
    simp only [World.cell?, hg]
    rw [List.getElem?_take] at hj
    split at hj
    · simpa using hj
    · cases hj

theorem octs_get (v : Int) (n j : Nat) (h : j < n) : (octs v n 0)[j]? = some (.int .u8 (octet v (n - 1 - j))) := by
  simp [octs, h]

theorem octs_last (v : Int) (n : Nat) (h : 1 ≤ n) : ([] ++ octs v n 0)[n - 1]? = some (.int .u8 (v % 256)) := by
  rw [List.nil_append, octs_get v n (n - 1) (by omega)]
  simp [octet]

set_option maxRecDepth 100000 in
theorem len7 (v : Int) (n : Nat) (hL : Len v n) (w : World) : Calls Yba.prog 7 #[.int .i64 v] w fun e w' => e = .returned (.int .i64 n) ∧ w' = w := by
  obtain ⟨l1, l8⟩ : 1 ≤ n ∧ n ≤ 8 := ⟨hL.lo, hL.hi⟩
  have HL : Hid (Len v n) := hL
  clear hL
  go_enter Yba.func7, Yba.ntmps7
  go_wp2
  go_loopg [3] 8 (fun gk t wr => ∃ k : Nat, k + gk = 9 ∧ 1 ≤ k ∧ k ≤ n ∧ t = .int .i64 k ∧ wr = w)
  case atStart => exact ⟨1, by omega, by omega, by omega, rfl, rfl⟩
  case round =>
    obtain ⟨k, hk, hk1, hkn, rfl, rfl⟩ := hrel
    by_cases hlt : k < 8
    · obtain ⟨e1, e2⟩ := wrap_pow k hk1 hlt
      by_cases hs : small v k
      · obtain rfl : k = n := by
          rcases Nat.lt_or_ge k n with h | h
          · exact absurd hs (HL.out.least k hk1 h)
          · omega
        obtain ⟨s1, s2⟩ := (small_iff v k).mp hs
        have f1 : wrap64 (-wrap64 (2 ^ (8 * k - 1))) ≤ v := by rw [e1, e2]; exact s1
        have f2 : v < wrap64 (2 ^ (8 * k - 1)) := by rw [e1]; exact s2
        clear hs s1 s2 e1 e2
        go_wp2
        go_ret
        exact ⟨rfl, rfl⟩
      · have hkn' : k + 1 ≤ n := by
          rcases Nat.lt_or_ge k n with h | h
          · exact h
          · obtain rfl : k = n := by omega
            exact absurd (HL.out.fit hlt) hs
        have hs' := fun h => hs ((small_iff v k).mpr h)
        by_cases s1 : -2 ^ (8 * k - 1) ≤ v
        · have f1 : wrap64 (-wrap64 (2 ^ (8 * k - 1))) ≤ v := by rw [e1, e2]; exact s1
          have f2 : wrap64 (2 ^ (8 * k - 1)) ≤ v := by rw [e1]; exact Int.not_lt.mp fun h => hs' ⟨s1, h⟩
          clear hs s1 e1 e2 hs'
          go_wp2
          go_roundg (gk - 1)
          case rel => exact ⟨k + 1, by omega, by omega, hkn', by go_num, rfl⟩
          case measure => omega
        · have f1 : v < wrap64 (-wrap64 (2 ^ (8 * k - 1))) := by rw [e1, e2]; omega
          clear hs s1 e1 e2 hs'
          go_wp2
          go_roundg (gk - 1)
          case rel => exact ⟨k + 1, by omega, by omega, hkn', by go_num, rfl⟩
          case measure => omega
    · obtain rfl : n = 8 := by omega
      obtain rfl : k = 8 := by omega
      go_wp2
      go_ret
      exact ⟨rfl, rfl⟩

set_option maxRecDepth 100000 in
theorem length4 (v : Int) (w : World) : Calls Yba.prog 4 #[.int .i64 v] w fun e w' => e = .returned (.bool true) ∧ Below w.heap.size w w' := by
  go_enter Yba.func4, Yba.ntmps4
  go_wp2_with fail
  refine (append6 none 0 [] v w (by omega) (fun _ => ⟨rfl, rfl⟩) rfl (fun _ h => nomatch h)).mono ?_
  rintro e w1 ⟨n, g, cap, hL, rfl, hown, bel⟩
  go_wp2_with fail
  refine (len7 v n hL w1).mono ?_
  rintro e w2 ⟨rfl, rfl⟩
  have hl1 := hL.lo
  have hl8 := hL.hi
  have hc : w2.cell? ⟨g, n - 1, none⟩ = some (.int .u8 (v % 256)) := own_cell hown (n - 1) _ (octs_last v n hL.lo)
  have HB : Hid (Below w.heap.size w w2) := bel
  clear bel hown hL
  go_wp2
  go_ret
  exact ⟨rfl, HB.out⟩

end Go.Proofs.Ybulkcinq
