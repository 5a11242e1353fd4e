/-
  'zzs4228aclone' (number 5).
-/
import Derived.Test.YbulkcinqLen
import Derived.OwnWalk
import Derived.Laws.CopyOwn
import Derived.Lib.SliceRun
namespace Go.Proofs.Ybulkcinq
open Go.RowKit

set_option maxRecDepth 100000 in
theorem clone5_nil (w : World) : Calls Yba.prog 5 #[.slice none 0 0] w fun e w' => e = .returned (.slice none 0 0) ∧ w' = w := by
  have hq : ∀ (w : World) (a : Option Addr) (n c : Nat), (binOp .eql 22 (.slice a n c) (.slice none 0 0)).run Yba.prog w = .ok (.bool a.isNone) w := fun w a n c => Lib.run_eql_slice_nil w 22 5 a n c 0 0 Yba.underlying22
  go_enter Yba.func5, Yba.ntmps5
  go_wp2
  go_ret
  exact ⟨rfl, rfl⟩

set_option maxRecDepth 100000 in
theorem clone5 (x : Addr) (m cap : Nat) (olds : List Value) (w : World) (hm : m ≤ 1024) (hlo : olds.length = m) (holds : ∀ j u, olds[j]? = some u → w.cell? (x.add j) = some u) (h1 : ∀ u ∈ olds, u.oneCell' = true) :
    Calls Yba.prog 5 #[.slice (some x) m cap] w fun e w' => e = .returned (.slice (some ⟨w.heap.size, 0, none⟩) m m) ∧ w'.heap[w.heap.size]? = some (.cells olds.toArray 5 (0, 0)) ∧ Below w.heap.size w w' := by
  obtain ⟨i0, hi, hz0, hz1, hz2⟩ := info_parts Yba.info5
  have hq : ∀ (w : World) (a : Option Addr) (n c : Nat), (binOp .eql 22 (.slice a n c) (.slice none 0 0)).run Yba.prog w = .ok (.bool a.isNone) w := fun w a n c => Lib.run_eql_slice_nil w 22 5 a n c 0 0 Yba.underlying22
  go_enter Yba.func5, Yba.ntmps5
  go_wp2_with (at_make; refine wpList_make_full _ rfl _ _ 22 rfl w.heap.size 5 i0 (.int .u8 0) 1 Yba.underlying22 hi hz0 hz1 _ _ _ _ m rfl rfl ?c1 ?c2 ?c3 ?c4 ?c5 ?_)
  case c1 => rfl
  case c2 => rfl
  case c3 => rw [hz2]; omega
  case c4 => simp only [maxLen]; omega
  case c5 => exact Nat.le_refl _
  intro w1 hown hg
  have bel1 : Below w.heap.size w w1 := (Below.refl _ _).grown hg (Nat.le_refl _) (fun k hk => nomatch hk)
  obtain ⟨cur, hcur, hsz⟩ : ∃ cur : List Value, w1.heap[w.heap.size]? = some (.cells cur.toArray 5 (0, 0)) ∧ cur.length = m := by
    obtain ⟨_, ⟨h, _⟩ | ⟨g', cap', cur, h, _, hg, _, _, hs, _⟩⟩ := hown
    · cases h
    · cases h
      exact ⟨cur.toList, by simpa using hg, by simpa using hs⟩
  clear hown hg
  have HC : Hid (w1.heap[w.heap.size]? = some (.cells cur.toArray 5 (0, 0))) := hcur
  have HX : Hid (∀ j u, olds[j]? = some u → w1.cell? (x.add j) = some u) := fun j u hu => cell_stays bel1 (holds j u hu) (Nat.le_refl _)
  clear hcur holds
  go_wp2_with (refine wpList_copy_splice rfl (.tmp 9) (.tmp 10) 22 22 rfl 5 Yba.underlying22 (by rw [hi]; simp [hz1]) (some ⟨w.heap.size, 0, none⟩) (some x) m m m cap rfl rfl w.heap.size 0 cur 5 HC.out olds ?c1 ?c2 ?c3 h1 w.heap.size w bel1 (Nat.le_refl _) ?_)
  case c1 => rw [hlo]; simp
  case c2 => exact fun _ => HX.out
  case c3 => omega
  intro w2 hw2 bel2
  have HE : Hid (w2.heap[w.heap.size]? = some (.cells olds.toArray 5 (0, 0))) := by
    have h := hw2.out
    rw [show splice cur 0 olds = olds by simp [splice, hlo, hsz]] at h
    exact h
  clear hw2
  go_wp2
  go_ret
  exact ⟨rfl, HE.out, bel2⟩

theorem clone5_any (ao : Option Addr) (m cap : Nat) (olds : List Value) (w : World) (hm : m ≤ 1024) (hlo : olds.length = m) (hnone : ao = none → m = 0 ∧ cap = 0) (holds : ∀ x, ao = some x → ∀ j u, olds[j]? = some u → w.cell? (x.add j) = some u) (h1 : ∀ u ∈ olds, u.oneCell' = true) :
    Calls Yba.prog 5 #[.slice ao m cap] w fun e w' => ∃ d, e = .returned (.slice d m m) ∧ (d = none → m = 0 ∧ m = 0) ∧ (∀ b, d = some b → ∀ j u, olds[j]? = some u → w'.cell? (b.add j) = some u) ∧ Below w.heap.size w w' := by
  cases ao with
  | none =>
    obtain ⟨rfl, rfl⟩ := hnone rfl
    refine (clone5_nil w).mono ?_
    rintro e w1 ⟨rfl, rfl⟩
    exact ⟨none, rfl, fun _ => ⟨rfl, rfl⟩, fun _ h => (nomatch h), Below.refl _ _⟩
  | some x =>
    refine (clone5 x m cap olds w hm hlo (holds x rfl) h1).mono ?_
    rintro e w1 ⟨rfl, hd, bel⟩
    refine ⟨_, rfl, fun h => (nomatch h), ?_, bel⟩
    intro b hb j u hu
    cases hb
    rw [show (⟨w.heap.size, 0, none⟩ : Addr).add j = ⟨w.heap.size, j, none⟩ by simp [Addr.add]; intro h; exact h.symm]
    simp only [World.cell?, hd]
    simpa using hu

end Go.Proofs.Ybulkcinq
