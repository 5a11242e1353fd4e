/-
  AppendUint64 (26) and 'zzs4230cput64' (16): eight bytes, the least significant first.
-/
import Derived.Test.YbulkciosFmtPairs
namespace Go.Proofs.YbulkciosFmt
open Go.RowKit

/-- The byte at place j. -/
def byteAt (x : Nat) (j : Nat) : Int := ((x / 2 ^ (8 * j) % 256 : Nat) : Int)

theorem byteAt_eq (x j : Nat) : byteAt x j = (x : Int) / 2 ^ (8 * j) % 256 := by simp [byteAt]

def eight (x : Nat) : Nat → List Int
  | 0 => []
  | j + 1 => eight x j ++ [byteAt x j]

theorem eight_length (x j : Nat) : (eight x j).length = j := by
  induction j with
  | zero => rfl
  | succ j ih => simp [eight, ih]

theorem new_cells (w : World) (ys : List Int) : ∀ j z, ys[j]? = some z → (w.alloc (.cells (ys.map (Value.int .u8)).toArray 5)).cell? ((⟨w.heap.size, 0, none⟩ : Addr).add j) = some (.int .u8 z) := by
  intro j z hj
  have r : RowAt (w.alloc (.cells (ys.map (Value.int .u8)).toArray 5)) w.heap.size 5 (ys.map (.int .u8)) := heap_alloc_new w _
  have e : (⟨w.heap.size, 0, none⟩ : Addr).add j = ⟨w.heap.size, j, none⟩ := by unfold Addr.add; split <;> simp_all
  rw [e, r.cell j, List.getElem?_map, hj]
  rfl

def raw8 (x : Nat) : List Int := [(x : Int) % 256, (x : Int) / 256 % 256, (x : Int) / 65536 % 256, (x : Int) / 16777216 % 256, (x : Int) / 4294967296 % 256, (x : Int) / 1099511627776 % 256, (x : Int) / 281474976710656 % 256, (x : Int) / 72057594037927936]

theorem raw8_eq (x : Nat) (hx : x < 18446744073709551616) : raw8 x = eight x 8 := by
  simp [raw8, eight, byteAt]
  omega

set_option maxRecDepth 100000 in
theorem append26 (w : World) (g : Nat) (xs : List Int) (n : Nat) (x : Nat) (hn : n = xs.length) (hx : x < 18446744073709551616) (hp : PRow w g xs) (hroom : n + 8 ≤ 4092) :
    Calls Ybaf.prog 26 #[.agg #[], .slice (some ⟨g, 0, none⟩) n 4092, .int .u64 x] w fun e w' => e = .returned (.slice (some ⟨g, 0, none⟩) (n + 8) 4092) ∧ PRow w' g (xs ++ eight x 8) ∧ w.grownBy w' (some g) := by
  have HN : Hid (n = xs.length) := hn
  clear hn
  have hg2 : ∀ o1 o2, w.grownBy ((w.alloc o1).alloc o2) none := fun o1 o2 => grown_trans (grown_alloc w o1) (grown_alloc _ o2)
  rw [← raw8_eq x hx]
  go_enter Ybaf.func26, Ybaf.ntmps26
  go_wp2_with (at_builtin; refine wpList_append_page rfl _ _ rfl g xs n HN.out (hp.grown (hg2 _ _) (by simp)) rfl ⟨w.heap.size + 1, 0, none⟩ (raw8 x) 8 8 rfl rfl ?c1 hroom ?_)
  case c1 =>
    rw [show w.heap.size + 1 = (w.alloc (Obj.cells #[] 90)).heap.size by simp]
    exact new_cells (w.alloc (Obj.cells #[] 90)) (raw8 x)
  intro w1 hp1 hg1
  have HG : Hid (w.grownBy w1 (some g)) := grown_trans (hg2 _ _) hg1
  clear hg1
  go_wp2
  go_ret
  exact ⟨rfl, hp1, HG.out⟩

set_option maxRecDepth 100000 in
theorem put16 (w : World) (g : Nat) (xs : List Int) (n : Nat) (x : Nat) (hn : n = xs.length) (hp : PRow w g xs) (hroom : n + 8 ≤ 4092) :
    Calls Ybaf.prog 16 #[.slice (some ⟨g, 0, none⟩) 4092 4092, .int .i64 n, .int .u64 x] w fun e w' => e = .returned (.tuple #[]) ∧ PRow w' g (xs ++ eight x 8) ∧ w.grownBy w' (some g) := by
  have HN : Hid (n = xs.length) := hn
  clear hn
  go_enter Ybaf.func16, Ybaf.ntmps16
  go_wp2
  go_loopg [6] 8 (fun gk t6 wr => ∃ k : Nat, k + gk = 8 ∧ t6 = .int .i64 k ∧ PRow wr g (xs ++ eight x k) ∧ w.grownBy wr (some g))
  case atStart => exact ⟨0, by omega, rfl, by simpa [eight] using hp, ⟨rfl, rfl, rfl, Nat.le_refl _, fun _ _ _ => rfl⟩⟩
  case round =>
    clear hp
    obtain ⟨k, hk, rfl, hp, hg⟩ := hrel
    by_cases hlt : k < 8
    · have HG := Hid.mk' hg
      have HP := Hid.mk' hp
      clear hg hp
      go_wp2_with (refine wpList_store_page_end rfl (.tmp 21) (.tmp 20) rfl rfl g (n + k) (byteAt x k) rfl ?c1 _ HP.out (by omega) ?c2 ?_)
      case c1 => rw [byteAt_eq]; rfl
      case c2 => rw [HN.out]; simp [eight_length]
      intro w1 hp1 hg1
      have HP1 : Hid (PRow w1 g (xs ++ eight x (k + 1))) := by simpa [Hid, eight, List.append_assoc] using hp1
      have HG1 : Hid (w.grownBy w1 (some g)) := grown_two HG.out hg1 (.inr rfl) (.inr rfl)
      clear hp1 hg1
      go_wp2
      go_roundg (gk - 1)
      case rel => exact ⟨k + 1, by omega, by go_num, HP1.out, HG1.out⟩
      case measure => omega
    · obtain rfl : k = 8 := by omega
      go_wp2
      refine bodyPost_end (results_none rfl _ _ _) rfl ?_
      exact ⟨rfl, hp, hg⟩
end Go.Proofs.YbulkciosFmt
