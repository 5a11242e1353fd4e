/-
  'size' (11) of a branch; 'slices.Equal' (9) of two slices of one content.
-/
import Derived.Test.YbulkciosFmtBPage
namespace Go.Proofs.YbulkciosFmt
open Go.RowKit

set_option maxRecDepth 100000 in
theorem units17b (w : World) (bn : Nat) (ka : Option Addr) (M d : Nat) (ks vs : Value) (h : Own w bn false ks vs) (h7 : w.cell? ⟨bn, 7, none⟩ = some (.slice ka M d)) : Calls Ybaf.prog 17 #[.pointer (some ⟨bn, 0, none⟩)] w fun e w' => e = .returned (.int .i64 M) ∧ w' = w := by
  have h2 := h.leaf
  go_enter Ybaf.func17, Ybaf.ntmps17
  go_wp2
  go_ret
  exact ⟨rfl, rfl⟩

set_option maxRecDepth 100000 in
theorem unitSize18z (w : World) (bn : Nat) (ks vs : Value) (h : Own w bn false ks vs) : Calls Ybaf.prog 18 #[.pointer (some ⟨bn, 0, none⟩), .int .i64 0] w fun e w' => e = .returned (.int .i64 8) ∧ w' = w := by
  have h2 := h.leaf
  go_enter Ybaf.func18, Ybaf.ntmps18
  go_wp2
  go_ret
  exact ⟨rfl, rfl⟩

set_option maxRecDepth 100000 in
theorem unitSize18b (w : World) (bn sb : Nat) (N c k : Nat) (vs : Value) (p : Addr) (x xc : Nat) (h : Own w bn false (.slice (some ⟨sb, 0, none⟩) N c) vs) (hi : k < N) (hN : N ≤ 1024) (hc : w.cell? ⟨sb, k, none⟩ = some (.slice (some p) x xc)) (hx : x ≤ 140737488355328) :
    Calls Ybaf.prog 18 #[.pointer (some ⟨bn, 0, none⟩), .int .i64 ((k + 1 : Nat) : Int)] w fun e w' => e = .returned (.int .i64 ((10 + x : Nat) : Int)) ∧ w' = w := by
  have h2 := h.leaf
  obtain ⟨i, HI⟩ : ∃ i : Nat, Hid (i = k + 1) := ⟨_, rfl⟩
  rw [← HI.out]
  have e0 : ((i : Int) == 0) = false := by rw [HI.out]; simp; omega
  have e1 : wrap64 ((i : Int) - 1) = (k : Int) := by rw [HI.out, wrapIn _ (by omega) (by omega)]; omega
  have e2 : IntKind.i64.wrap ((i : Int) - 1) = (k : Int) := by rw [HI.out, wrapI _ (by omega) (by omega)]; omega
  have e3 : (i : Int) - 1 = (k : Int) := by rw [HI.out]; omega
  have hi1 : i ≤ 1024 := by rw [HI.out]; omega
  go_enter Ybaf.func18, Ybaf.ntmps18
  go_wp2_with fail
  refine (key29 w bn false sb N c k _ _ h hi hc).mono ?_
  rintro e w1 ⟨rfl, rfl⟩
  go_wp2
  go_ret
  exact ⟨by rw [show ((10 + x : Nat) : Int) = 2 + (x : Int) + 8 by omega]; rfl, rfl⟩

/-- The size behind k units. -/
def usz (S : Nat → List Int) : Nat → Nat
  | 0 => 4
  | k + 1 => bsz S k

set_option maxRecDepth 100000 in
theorem size11b (w : World) (bn : Nat) (so : Option Addr) (sb : Nat) (ka : Option Addr) (N c d : Nat) (S : Nat → List Int) (vs : Value) (h : Own w bn false (.slice so N c) vs) (h7 : w.cell? ⟨bn, 7, none⟩ = some (.slice ka (N + 1) d)) (hN : N ≤ 1024)
    (hso : 0 < N → so = some ⟨sb, 0, none⟩) (hk : Bufs w sb N S) (hS : ∀ j, j < N → (S j).length ≤ 140737488355328) :
    Calls Ybaf.prog 11 #[.pointer (some ⟨bn, 0, none⟩)] w fun e w' => e = .returned (.int .i64 (bsz S N)) ∧ ∃ m, w' = w.drewN m := by
  generalize hM : N + 1 = M at h7
  have HM := Hid.mk' hM
  clear hM
  have hM1 : M ≤ 1025 := by have := HM.out; omega
  go_enter Ybaf.func11, Ybaf.ntmps11
  go_wp2_with fail
  refine (units17b w bn ka M d _ _ h h7).mono ?_
  rintro e w1 ⟨rfl, rfl⟩
  go_wp2
  go_loopg [3, 7] M (fun gk t3 t7 wr => ∃ k : Nat, k + gk = M ∧ t7 = .int .i64 k ∧ t3 = .int .i64 (usz S k) ∧ wr = w1)
  case atStart => exact ⟨0, by omega, rfl, rfl, rfl⟩
  case round =>
    obtain ⟨k, hk1, rfl, rfl, rfl⟩ := hrel
    by_cases hlt : k < M
    · cases k with
      | zero =>
        rw [show usz S 0 = 4 from rfl]
        go_wp2_with fail
        refine (unitSize18z _ bn _ _ h).mono ?_
        rintro e w2 ⟨rfl, rfl⟩
        go_wp2
        go_roundg (gk - 1)
        case rel => exact ⟨1, by omega, rfl, rfl, rfl⟩
        case measure => omega
      | succ k =>
        have hkN : k < N := by have := HM.out; omega
        have hso' := hso (by omega)
        subst hso'
        obtain ⟨p, cp, e1, _⟩ := hk k hkN
        have b1 := hS k hkN
        have hu := unitSize18b wr bn sb N c k vs _ _ _ h hkN hN e1 b1
        have hle := bsz_le S k (fun j hj => hS j (by omega))
        have HS : Hid (usz S (k + 1 + 1) = usz S (k + 1) + (10 + (S k).length)) := rfl
        have HU : Hid (usz S (k + 1) = bsz S k) := rfl
        obtain ⟨i, HI⟩ : ∃ i : Nat, Hid (i = k + 1) := ⟨_, rfl⟩
        rw [← HI.out] at hu HU HS hlt hk1 ⊢
        obtain ⟨A, HA⟩ : ∃ A, Hid (A = usz S i) := ⟨_, rfl⟩
        rw [← HA.out] at HU HS ⊢
        have hA : A ≤ 12 + k * 140737488355338 := by rw [HU.out]; exact hle
        obtain ⟨x, HX⟩ : ∃ x, Hid (x = (S k).length) := ⟨_, rfl⟩
        rw [← HX.out] at hu HS b1
        clear e1 hle
        go_wp2_with fail
        refine hu.mono ?_
        rintro e w2 ⟨rfl, rfl⟩
        go_wp2
        go_roundg (gk - 1)
        case rel => exact ⟨i + 1, by omega, by go_num, by rw [HS.out]; go_num, rfl⟩
        case measure => omega
    · obtain rfl : k = M := by omega
      have HE : Hid (usz S k = bsz S N) := by rw [← HM.out]; rfl
      rw [HE.out]
      go_wp2
      go_ret
      exact ⟨rfl, 0, rfl⟩

/-- A slice of page numbers, and what it holds. -/
def U64sAt (w : World) (v : Value) (xs : List Int) : Prop :=
  ∃ a c g, v = .slice a xs.length c ∧ (0 < xs.length → a = some ⟨g, 0, none⟩) ∧ ∀ j x, xs[j]? = some x → w.cell? ⟨g, j, none⟩ = some (.int .u64 x)

set_option maxRecDepth 100000 in
theorem equal9 (w : World) (v1 v2 : Value) (xs : List Int) (h1 : U64sAt w v1 xs) (h2 : U64sAt w v2 xs) (hl : xs.length ≤ 1000) :
    Calls Ybaf.prog 9 #[v1, v2] w fun e w' => e = .returned (.bool true) ∧ ∃ m, w' = w.drewN m := by
  obtain ⟨a1, c1, g1, rfl, ha1, hc1⟩ := h1
  obtain ⟨a2, c2, g2, rfl, ha2, hc2⟩ := h2
  have HC1 := Hid.mk' hc1
  have HC2 := Hid.mk' hc2
  clear hc1 hc2
  obtain ⟨n, HN⟩ : ∃ n, Hid (n = xs.length) := ⟨_, rfl⟩
  rw [← HN.out] at hl ha1 ha2 ⊢
  go_enter Ybaf.func9, Ybaf.ntmps9
  go_wp2
  go_loopg [13] n (fun gk t13 wr => ∃ k : Nat, k + gk = n ∧ t13 = .int .i64 k ∧ ∃ m, wr = w.drewN m)
  case atStart => exact ⟨0, by omega, rfl, 0, rfl⟩
  case round =>
    obtain ⟨k, hk1, rfl, m, rfl⟩ := hrel
    by_cases hlt : k < n
    · have b1 := ha1 (by omega)
      have b2 := ha2 (by omega)
      subst b1 b2
      obtain ⟨x, hx⟩ : ∃ x, xs[k]? = some x := ⟨_, List.getElem?_eq_getElem (by rw [← HN.out]; exact hlt)⟩
      have d1 : w.cell? ⟨g1, k, none⟩ = some (.int .u64 x) := HC1.out k x hx
      have d2 : w.cell? ⟨g2, k, none⟩ = some (.int .u64 x) := HC2.out k x hx
      clear hx
      go_wp2_with fail
      go_quiet (fail)
      go_wp2
      go_roundg (gk - 1)
      case rel => exact ⟨k + 1, by omega, by go_num, _, rfl⟩
      case measure => omega
    · obtain rfl : k = n := by omega
      go_wp2
      go_ret
      exact ⟨rfl, m, rfl⟩
end Go.Proofs.YbulkciosFmt
