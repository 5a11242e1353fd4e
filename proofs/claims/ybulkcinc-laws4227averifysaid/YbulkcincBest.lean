/-
  The plain law: what 'verify' answers of a ladder is the greatest (least) price, whether there is any order, and whether all keep the rule.
-/
import Derived.Test.YbulkcincHolds
namespace Go.Proofs.Ybulkcinc
open Go.RowKit Go.IntWalk

/-- The greatest price as the law reckons it. -/
def maxTo (O : Nat → Ord) : Nat → Int
  | 0 => (O 0).price
  | n + 1 => if maxTo O n < (O n).price then (O n).price else maxTo O n

/-- The least. -/
def minTo (O : Nat → Ord) : Nat → Int
  | 0 => (O 0).price
  | n + 1 => if (O n).price < minTo O n then (O n).price else minTo O n

/-- Prices whose negation does not wrap. -/
def PriceOk (O : Nat → Ord) (n : Nat) : Prop := ∀ i, i < n → -2147483648 ≤ (O i).price ∧ (O i).price ≤ 2147483647

theorem maxTo_in {O : Nat → Ord} {n : Nat} (h : PriceOk O n) (h0 : 0 < n) : ∀ k, k ≤ n → -2147483648 ≤ maxTo O k ∧ maxTo O k ≤ 2147483647
  | 0, _ => h 0 h0
  | k + 1, hk => by
    have ih := maxTo_in h h0 k (by omega)
    have := h k (by omega)
    unfold maxTo
    split <;> omega

theorem minTo_in {O : Nat → Ord} {n : Nat} (h : PriceOk O n) (h0 : 0 < n) : ∀ k, k ≤ n → -2147483648 ≤ minTo O k ∧ minTo O k ≤ 2147483647
  | 0, _ => h 0 h0
  | k + 1, hk => by
    have ih := minTo_in h h0 k (by omega)
    have := h k (by omega)
    unfold minTo
    split <;> omega

theorem vfold_snoc (sg : Int) (s : VS) (l : List Ord) (o : Ord) : vfold sg s (l ++ [o]) = vstep sg (vfold sg s l) o := by
  simp [vfold, List.foldl_append]

theorem vhold (sg : Int) (O : Nat → Ord) : ∀ n, (vfold sg ⟨0, false, true⟩ (flatTo (fun i => [O i]) n)).hold = okTo O n ∧ (vfold sg ⟨0, false, true⟩ (flatTo (fun i => [O i]) n)).held = decide (0 < n)
  | 0 => ⟨rfl, rfl⟩
  | n + 1 => by
    have ih := vhold sg O n
    rw [show flatTo (fun i => [O i]) (n + 1) = flatTo (fun i => [O i]) n ++ [O n] from rfl, vfold_snoc]
    refine ⟨?_, by simp [vstep]⟩
    show ((vfold sg ⟨0, false, true⟩ (flatTo (fun i => [O i]) n)).hold && okOrd (O n)) = _
    rw [ih.1]
    rfl

theorem vmax {O : Nat → Ord} {n : Nat} (h : PriceOk O n) : ∀ k, k + 1 ≤ n → (vfold 1 ⟨0, false, true⟩ (flatTo (fun i => [O i]) (k + 1))).best = maxTo O (k + 1)
  | 0, _ => by simp [flatTo, vfold, vstep, better, maxTo]
  | k + 1, hk => by
    have ih := vmax h k (by omega)
    have hh := (vhold 1 O (k + 1)).2
    have b1 := maxTo_in h (by omega) (k + 1) (by omega)
    have b2 := h (k + 1) (by omega)
    rw [show flatTo (fun i => [O i]) (k + 1 + 1) = flatTo (fun i => [O i]) (k + 1) ++ [O (k + 1)] from rfl, vfold_snoc]
    simp only [vstep, better, ih, hh]
    rw [Int.one_mul, Int.one_mul, wrap64_in _ (by omega), wrap64_in _ (by omega)]
    rw [show maxTo O (k + 1 + 1) = if maxTo O (k + 1) < (O (k + 1)).price then (O (k + 1)).price else maxTo O (k + 1) from rfl]
    by_cases hlt : maxTo O (k + 1) < (O (k + 1)).price <;> simp [hlt]

theorem vmin {O : Nat → Ord} {n : Nat} (h : PriceOk O n) : ∀ k, k + 1 ≤ n → (vfold (-1) ⟨0, false, true⟩ (flatTo (fun i => [O i]) (k + 1))).best = minTo O (k + 1)
  | 0, _ => by simp [flatTo, vfold, vstep, better, minTo]
  | k + 1, hk => by
    have ih := vmin h k (by omega)
    have hh := (vhold (-1) O (k + 1)).2
    have b1 := minTo_in h (by omega) (k + 1) (by omega)
    have b2 := h (k + 1) (by omega)
    rw [show flatTo (fun i => [O i]) (k + 1 + 1) = flatTo (fun i => [O i]) (k + 1) ++ [O (k + 1)] from rfl, vfold_snoc]
    simp only [vstep, better, ih, hh]
    rw [wrap64_in _ (by omega), wrap64_in _ (by omega)]
    rw [show minTo O (k + 1 + 1) = if (O (k + 1)).price < minTo O (k + 1) then (O (k + 1)).price else minTo O (k + 1) from rfl]
    by_cases hlt : (O (k + 1)).price < minTo O (k + 1)
    · have : -1 * minTo O (k + 1) < -1 * (O (k + 1)).price := by omega
      simp [hlt]
    · have : ¬ -1 * minTo O (k + 1) < -1 * (O (k + 1)).price := by omega
      simp [hlt]

end Go.Proofs.Ybulkcinc
