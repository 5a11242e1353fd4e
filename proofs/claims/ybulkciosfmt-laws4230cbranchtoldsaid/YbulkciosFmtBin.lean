/-
  PutUint16 (24), AppendUint16 (25), AppendUint64 (26) onto a page.
-/
import Derived.Test.YbulkciosFmtPage
namespace Go.Proofs.YbulkciosFmt
open Go.RowKit

theorem grown_trans {a b c : World} {r : Option Nat} (h : a.grownBy b none) (k : b.grownBy c r) : a.grownBy c r :=
  ⟨k.os.trans h.os, k.tape.trans h.tape, k.output.trans h.output, Nat.le_trans h.size k.size, fun i hi hr => (k.block i (Nat.lt_of_lt_of_le hi h.size) hr).trans (h.block i hi (by simp))⟩

theorem grown_alloc (w : World) (o : Obj) : w.grownBy (w.alloc o) none := ⟨rfl, rfl, rfl, by simp, fun _ hk _ => Below.heap_alloc _ _ _ hk⟩

theorem Ybaf.info90 : (Ybaf.prog.info? 90).map (fun i => (i.zero, i.size, i.bytes)) = some (some (.agg #[]), 0, 0) := by kernel_rfl

theorem two_new (w : World) (x y : Int) : ∀ j z, [x, y][j]? = some z → (w.alloc (.cells #[.int .u8 x, .int .u8 y] 5)).cell? ((⟨w.heap.size, 0, none⟩ : Addr).add j) = some (.int .u8 z) := by
  intro j z hj
  have r : RowAt (w.alloc (.cells #[.int .u8 x, .int .u8 y] 5)) w.heap.size 5 [.int .u8 x, .int .u8 y] := heap_alloc_new w _
  match j, hj with
  | 0, hj => cases hj; exact r.cell 0
  | 1, hj => cases hj; exact r.cell 1
  | j + 2, hj => simp at hj

set_option maxRecDepth 100000 in
theorem append25 (w : World) (g : Nat) (xs : List Int) (n : Nat) (x : Nat) (hn : n = xs.length) (hx : x < 65536) (hp : PRow w g xs) (hroom : n + 2 ≤ 4092) :
    Calls Ybaf.prog 25 #[.agg #[], .slice (some ⟨g, 0, none⟩) n 4092, .int .u16 x] w fun e w' => e = .returned (.slice (some ⟨g, 0, none⟩) (n + 2) 4092) ∧ PRow w' g (xs ++ [(x : Int) % 256, (x : Int) / 256]) ∧ w.grownBy w' (some g) := by
  have HN : Hid (n = xs.length) := hn
  clear hn
  have hg2 : ∀ o1 o2, w.grownBy ((w.alloc o1).alloc o2) none := fun o1 o2 => grown_trans (grown_alloc w o1) (grown_alloc _ o2)
  go_enter Ybaf.func25, Ybaf.ntmps25
  go_wp2_with (at_builtin; refine wpList_append_page rfl _ _ rfl g xs n HN.out (hp.grown (hg2 _ _) (by simp)) rfl ⟨w.heap.size + 1, 0, none⟩ [(x : Int) % 256, (x : Int) / 256] 2 2 rfl rfl ?c1 hroom ?_)
  case c1 => exact (by simpa using two_new (w.alloc (Obj.cells #[] 90)) ((x : Int) % 256) ((x : Int) / 256))
  intro w1 hp1 hg1
  have HG : Hid (w.grownBy w1 (some g)) := grown_trans (hg2 _ _) hg1
  clear hg1
  go_wp2
  go_ret
  exact ⟨rfl, hp1, HG.out⟩

theorem PRow.cell {w : World} {g : Nat} {xs : List Int} (h : PRow w g xs) (j : Nat) (x : Int) (hj : xs[j]? = some x) : w.cell? ⟨g, j, none⟩ = some (.int .u8 x) := by
  rw [h.row.cell j]
  unfold pageCells
  rw [List.getElem?_map, List.getElem?_append_left (List.getElem?_eq_some_iff.1 hj).1, hj]
  rfl

set_option maxRecDepth 100000 in
theorem put24 (w : World) (g : Nat) (a0 a1 a2 a3 : Int) (x : Nat) (hx : x < 65536) (hp : PRow w g [a0, a1, a2, a3]) :
    Calls Ybaf.prog 24 #[.agg #[], .slice (some ⟨g, 2, none⟩) 2 4090, .int .u16 x] w fun e w' => e = .returned (.tuple #[]) ∧ PRow w' g [a0, a1, (x : Int) % 256, (x : Int) / 256] ∧ w.grownBy w' (some g) := by
  have hp0 : PRow (w.alloc (Obj.cells #[] 90)) g [a0, a1, a2, a3] := hp.grown (grown_alloc w _) (by simp)
  have c3 : (w.alloc (Obj.cells #[] 90)).cell? ⟨g, 3, none⟩ = some (.int .u8 a3) := hp0.cell 3 a3 rfl
  go_enter Ybaf.func24, Ybaf.ntmps24
  go_wp2_with (refine wpList_store_page_in rfl (.tmp 12) (.tmp 11) rfl rfl g 2 ((x : Int) % 256) rfl rfl _ hp0 (by simp) ?_)
  intro w1 hp1 hg1
  have HG : Hid (w.grownBy w1 (some g)) := grown_trans (grown_alloc w _) hg1
  clear hg1
  go_wp2_with (refine wpList_store_page_in rfl (.tmp 17) (.tmp 16) rfl rfl g 3 ((x : Int) / 256) rfl rfl _ hp1 (by simp) ?_)
  intro w2 hp2 hg2
  have HG2 : Hid (w.grownBy w2 (some g)) := ⟨hg2.os.trans HG.out.os, hg2.tape.trans HG.out.tape, hg2.output.trans HG.out.output, Nat.le_trans HG.out.size hg2.size, fun k hk hr => (hg2.block k (Nat.lt_of_lt_of_le hk HG.out.size) hr).trans (HG.out.block k hk hr)⟩
  clear hg2
  go_wp2
  refine bodyPost_end (results_none rfl _ _ _) rfl ?_
  exact ⟨rfl, hp2, HG2.out⟩

end Go.Proofs.YbulkciosFmt
