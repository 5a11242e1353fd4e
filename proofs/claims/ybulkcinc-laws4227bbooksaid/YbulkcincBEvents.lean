/-
  'LawS4227BEvents' (number 4): the walk.
-/
import Derived.Test.YbulkcincVbook
namespace Go.Proofs.Ybulkcinc
open Go.RowKit

set_option maxHeartbeats 400000 in
theorem engine14 (w : World) :
    Calls Yba.prog 14 #[] w fun e w' => e = .returned (.pointer (some ⟨w.heap.size + 2, 0, none⟩)) ∧
      w' = ((w.alloc (.map #[] 0)).alloc (.map #[] 0)).alloc (.cells #[.map (some w.heap.size), .map (some (w.heap.size + 1))] 31) := by
  have hmm := @run_makeMap Yba.prog
  go_enter Yba.func14, Yba.ntmps14
  go_wp2
  go_ret
  exact ⟨rfl, rfl⟩

theorem ruleOf_string (x : Bool) : ∃ s, ruleOf x = .string s := by cases x <;> exact ⟨_, rfl⟩

theorem EvsTo.at {B n : Nat} {w : World} {xs : List Value} {R : Nat → Rep} {c : Nat} (ho : w.ownsRow B 99 1 (.slice (some ⟨B, 0, none⟩) n c) n xs) (h : EvsTo B w xs n R) : EvsAt B w B n R := by
  intro i hi
  have hx : i < xs.length := by rw [h.1]; exact hi
  refine ⟨xs[i], ?_, h.2 i _ (List.getElem?_eq_getElem hx)⟩
  have := ho.cells (g := B) rfl i _ (List.getElem?_eq_getElem hx)
  simpa [Addr.add_lit] using this

set_option maxRecDepth 100000 in
set_option maxHeartbeats 1000000 in
theorem lawB4 (s : ByteArray) (a : Option Addr) (n c : Nat) (R : Nat → Rep) (w : World) (h : RepsAt w a n R) :
    Calls Yba.prog 4 #[.string s, .slice a n c] w fun e w' => e = .returned (.bool true) ∧ Below w.heap.size w w' := by
  by_cases hn : n ≤ 1024
  · obtain ⟨s0, hs0⟩ := ruleOf_string (badTo R n)
    have HS : Hid (ruleOf (badTo R n) = .string s0) := hs0
    clear hs0
    go_enter Yba.func4, Yba.ntmps4
    go_wp2_with fail
    refine (engine14 w).mono ?_
    rintro e w1 ⟨rfl, hw1⟩
    have hb1 : Below w.heap.size w w1 := by
      rw [hw1]; exact (((Below.refl _ _).alloc (Nat.le_refl _) _).alloc (by simp) _).alloc (by simp; omega) _
    have hsz1 : w.heap.size + 2 < w1.heap.size := by rw [hw1]; simp
    have hm1 : w1.heap[w.heap.size]? = some (.map #[] 0) := by
      rw [hw1]; rw [Below.heap_alloc _ _ _ (by simp; omega), Below.heap_alloc _ _ _ (by simp)]; exact (MapKept.heap_alloc w _).1
    have he1 : w1.cell? ⟨w.heap.size + 2, 0, none⟩ = some (.map (some w.heap.size)) := by
      rw [hw1]; simp [go_sem]
    clear hw1
    go_wp2_with fail
    refine (events16 a n c R w1 (h.below hb1) hn).mono ?_
    rintro e w2 ⟨rfl, hb2, hsz2, xs, hown, hevs⟩
    go_wp2_with fail
    refine (vbook15_none (w.heap.size + 2) w.heap.size 0 w1.heap.size w1.heap.size n n #[] s R w2 ((hb2.cell (p := ⟨w.heap.size + 2, 0, none⟩) hsz1).trans he1) ((hb2.block _ (by omega)).trans hm1) rfl (EvsTo.at hown hevs) hn).mono ?_
    rintro e w3 ⟨rfl, m3, rfl⟩
    rw [HS.out]
    go_wp2_with fail
    refine (want17 a n c R (w2.drewN m3) ((h.below hb1).below hb2 |>.below ⟨rfl, rfl, rfl, Nat.le_refl _, fun _ _ => rfl⟩) hn).mono ?_
    rintro e w4 ⟨rfl, hb4⟩
    rw [HS.out]
    go_wp2
    go_ret
    have hb3 : Below w.heap.size w (w2.drewN m3) := (hb1.trans (hb2.mono hb1.size)).trans ⟨rfl, rfl, rfl, Nat.le_refl _, fun _ _ => rfl⟩
    exact ⟨by simp, hb3.trans (hb4.mono hb3.size)⟩
  · have hn' : (1024 : Int) < (n : Int) := by omega
    go_enter Yba.func4, Yba.ntmps4
    go_wp2
    go_ret
    exact ⟨rfl, Below.refl _ _⟩

end Go.Proofs.Ybulkcinc
