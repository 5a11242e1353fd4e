/-
  The two 'keeps the quantity rule' functions: the law's own (number 24) and the program's method (number 23), each by the plain 'keepsB'.
-/
import Derived.Test.YbulkcincProg
import Derived.WalkKit
import Derived.WalkSpells
import Derived.WalkLawsBesides
import Derived.Deep.QuietTactic
import Derived.BigQuiet
namespace Go.Proofs.Ybulkcinc
open Go.RowKit

theorem ret_bool {a b : Bool} (h : a = b) : Ending.returned (.bool a) = .returned (.bool b) := by rw [h]

/-- The rule, of a status that is already reduced. -/
def keepsB (s q x p r : Int) : Bool :=
  if s = 1 ∨ s = 2 then decide (0 < r) && (wrap64 (wrap64 (x + p) + r) == q)
  else if s = 3 ∨ s = 6 then (r == 0) && (wrap64 (x + p) == q)
  else r == 0

set_option maxHeartbeats 400000 in
theorem keeps24 (k s q x p r : Int) (w : World) (hs : 0 ≤ s) (hs' : s ≤ 255) :
    Calls Yba.prog 24 #[.agg #[.int .u8 k, .int .u8 s, .int .i64 q, .int .i64 x, .int .i64 p, .int .i64 r]] w fun e w' =>
      e = .returned (.bool (keepsB (s % 8) q x p r)) ∧ Below w.heap.size w w' := by
  go_enter Yba.func24, Yba.ntmps24
  go_wp2
  all_goals go_ret
  all_goals refine ⟨ret_bool ?_, (Below.refl _ _).alloc (Nat.le_refl _) _⟩
  all_goals (go_tidy; simp_all [keepsB])
  all_goals (intros; omega)

set_option maxHeartbeats 1000000 in
theorem keeps23 (b : Nat) (s q x p r : Int) (w : World) (h8 : w.cell? ⟨b, 8, none⟩ = some (.int .u8 s)) (h7 : w.cell? ⟨b, 7, none⟩ = some (.int .i64 q))
    (h9 : w.cell? ⟨b, 9, none⟩ = some (.int .i64 x)) (h10 : w.cell? ⟨b, 10, none⟩ = some (.int .i64 p)) (h11 : w.cell? ⟨b, 11, none⟩ = some (.int .i64 r)) :
    Calls Yba.prog 23 #[.pointer (some ⟨b, 0, none⟩)] w fun e w' =>
      e = .returned (.bool (keepsB s q x p r)) ∧ ∃ n, w' = w.drewN n := by
  by_cases hp : 0 < r
  · have hz : (r == 0) = false := beq_eq_false_iff_ne.2 (by omega)
    go_enter Yba.func23, Yba.ntmps23
    go_wp2
    all_goals try go_quiet (fail)
    all_goals go_wp2
    all_goals go_ret
    all_goals refine ⟨ret_bool ?_, by first | exact ⟨_, rfl⟩ | exact ⟨0, rfl⟩⟩
    all_goals (go_tidy; simp_all [keepsB])
  have hd : decide (0 < r) = false := by simpa using hp
  by_cases h0 : r = 0
  · subst h0
    go_enter Yba.func23, Yba.ntmps23
    go_wp2
    all_goals try go_quiet (fail)
    all_goals go_wp2
    all_goals go_ret
    all_goals refine ⟨ret_bool ?_, by first | exact ⟨_, rfl⟩ | exact ⟨0, rfl⟩⟩
    all_goals (go_tidy; simp_all [keepsB])
  · have hz : (r == 0) = false := beq_eq_false_iff_ne.2 h0
    go_enter Yba.func23, Yba.ntmps23
    go_wp2
    all_goals try go_quiet (fail)
    all_goals go_wp2
    all_goals go_ret
    all_goals refine ⟨ret_bool ?_, by first | exact ⟨_, rfl⟩ | exact ⟨0, rfl⟩⟩
    all_goals (go_tidy; simp_all [keepsB])
    all_goals (intros; omega)

end Go.Proofs.Ybulkcinc
