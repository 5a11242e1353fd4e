/-
  'AppendInt' (number 6): the octets of a number, the most significant first.
-/
import Derived.Test.YbulkcinqProg
import Derived.WalkKit
import Derived.WalkSpells
import Derived.WalkLawsBesides
import Derived.Deep.LoopGhost
import Derived.Deep.CutBlock
import Derived.ArgAppend
namespace Go.Proofs.Ybulkcinq
open Go.RowKit

/-- k octets hold v. -/
def small (v : Int) (k : Nat) : Prop := v / 2 ^ (8 * k - 1) = 0 ∨ v / 2 ^ (8 * k - 1) = -1

/-- n is the number of octets. -/
structure Len (v : Int) (n : Nat) : Prop where
  lo : 1 ≤ n
  hi : n ≤ 8
  fit : n < 8 → small v n
  least : ∀ j, 1 ≤ j → j < n → ¬ small v j

/-- The octet at place i. -/
def octet (v : Int) (i : Nat) : Int := v / 2 ^ (8 * i) % 256

/-- The octets from place n - 1 down to place i. -/
def octs (v : Int) (n i : Nat) : List Value := (List.range (n - i)).map fun j => .int .u8 (octet v (n - 1 - j))

theorem octs_length (v : Int) (n i : Nat) : (octs v n i).length = n - i := by simp [octs]

theorem octs_step (v : Int) (n i : Nat) (h : i + 1 ≤ n) : octs v n i = octs v n (i + 1) ++ [.int .u8 (octet v i)] := by
  unfold octs
  rw [show n - i = (n - (i + 1)) + 1 by omega, List.range_succ, List.map_append]
  simp
  congr 1
  omega

theorem Yba.info5 : (Yba.prog.info? 5).map (fun i => (i.zero, i.size, i.bytes)) = some (some (.int .u8 0), 1, 1) := by kernel_rfl

theorem cell_stays {B : Nat} {w w' : World} (h : Below B w w') {a : Addr} {v : Value} (hc : w.cell? a = some v) (hB : w.heap.size ≤ B) : w'.cell? a = some v := by
  rw [h.cell (Nat.lt_of_lt_of_le (World.block_lt_of_cell? w a hc) hB)]; exact hc

theorem alloc_ge {w : World} {b : Nat} {o : Obj} (h : b ≤ w.heap.size) : b ≤ (w.alloc o).heap.size := by
  simp; omega

theorem own_low {w : World} {b b' : Nat} {e : TypeId} {s : Nat} {v : Value} {n : Nat} {xs : List Value} (h : w.ownsRow b e s v n xs) (hb : b' ≤ b) : w.ownsRow b' e s v n xs := by
  obtain ⟨h1, h2 | ⟨g, cap, cur, h3, h4, h5⟩⟩ := h
  · exact ⟨h1, .inl h2⟩
  · exact ⟨h1, .inr ⟨g, cap, cur, h3, Nat.le_trans hb h4, h5⟩⟩

theorem own_block {w : World} {b : Nat} {e : TypeId} {s : Nat} {v : Value} {n k : Nat} {xs : List Value} (h : w.ownsRow b e s v n xs) (hk : v.ownBlock = some k) : b ≤ k := by
  obtain ⟨h1, ⟨rfl, _⟩ | ⟨g, cap, cur, rfl, h4, h5⟩⟩ := h
  · simp [Value.ownBlock] at hk
  · simp [Value.ownBlock] at hk; omega

set_option maxRecDepth 100000 in
set_option maxHeartbeats 1000000 in
theorem append6 (ao : Option Addr) (m : Nat) (olds : List Value) (v : Int) (w : World) (hm : m ≤ 1024) (hnone : ao = none → m = 0 ∧ m = 0) (hlo : olds.length = m * 1) (holds : ∀ b, ao = some b → ∀ j u, olds[j]? = some u → w.cell? (b.add j) = some u) :
    Calls Yba.prog 6 #[.slice ao m m, .int .i64 v] w fun e w' => ∃ n g cap, Len v n ∧ e = .returned (.slice (some ⟨g, 0, none⟩) (m + n) cap) ∧ w'.ownsRow w.heap.size 5 1 (.slice (some ⟨g, 0, none⟩) (m + n) cap) (m + n) (olds ++ octs v n 0) ∧ Below w.heap.size w w' := by
  obtain ⟨i0, hi, hz0, hz1, hz2⟩ := info_parts Yba.info5
  go_enter Yba.func6, Yba.ntmps6
  go_upto_block 0 with fail
  go_cut [5] from 7 to 26 (fun t w' => ∃ n : Nat, t = .int .i64 n ∧ Len v n ∧ w' = w)
  case first =>
    go_wp2
    go_loopg [5] 8 (fun gk t wr => ∃ k : Nat, k + gk = 9 ∧ 1 ≤ k ∧ k ≤ 8 ∧ t = .int .i64 k ∧ (∀ j, 1 ≤ j → j < k → ¬ small v j) ∧ wr = w)
    case atStart => exact ⟨1, by omega, by omega, by omega, rfl, fun j h1 h2 => absurd h1 (by omega), rfl⟩
    case round =>
      obtain ⟨k, hk, hk1, hk8, rfl, hleast, rfl⟩ := hrel
      have HL : Hid (∀ j, 1 ≤ j → j < k → ¬ small v j) := hleast
      clear hleast
      by_cases hlt : k < 8
      · by_cases hs : small v k
        · have HE : Hid (Len v k) := ⟨hk1, hk8, fun _ => hs, HL.out⟩
          unfold small at hs
          by_cases h0 : v / 2 ^ (8 * k - 1) = 0
          · clear hs
            go_wp2
            go_meet
            case rel => exact ⟨k, rfl, HE.out, rfl⟩
          · have h1 := hs.resolve_left h0
            clear hs
            go_wp2
            go_meet
            case rel => exact ⟨k, rfl, HE.out, rfl⟩
        · have HN : Hid (∀ j, 1 ≤ j → j < k + 1 → ¬ small v j) := fun j h1 h2 => by
            rcases Nat.lt_or_ge j k with h | h
            · exact HL.out j h1 h
            · have : j = k := by omega
              subst this; exact hs
          unfold small at hs
          have h0 : (v / 2 ^ (8 * k - 1) != 0) = true := by simp; exact fun e => hs (.inl e)
          have h1 : (v / 2 ^ (8 * k - 1) != -1) = true := by simp; exact fun e => hs (.inr e)
          clear hs
          go_wp2
          go_roundg (gk - 1)
          case rel => exact ⟨k + 1, by omega, by omega, by omega, by go_num, HN.out, rfl⟩
          case measure => omega
      · obtain rfl : k = 8 := by omega
        have HE : Hid (Len v 8) := ⟨by omega, by omega, fun h => absurd h (by omega), HL.out⟩
        go_wp2
        go_meet
        case rel => exact ⟨8, rfl, HE.out, rfl⟩
  case rest =>
    obtain ⟨n, rfl, hL, hwc⟩ := hcut
    subst hwc
    rename World => w
    obtain ⟨l1, l8⟩ : 1 ≤ n ∧ n ≤ 8 := ⟨hL.lo, hL.hi⟩
    have HL : Hid (Len v n) := hL
    clear hL
    go_wp2
    go_loopg [0, 6] n (fun r t0 t6 wr => r ≤ n ∧ t6 = .int .i64 ((r : Int) - 1) ∧ ((r = n ∧ t0 = .slice ao m m ∧ wr = w) ∨ (r < n ∧ wr.ownsRow w.heap.size 5 1 t0 (m + (n - r)) (olds ++ octs v n r) ∧ Below w.heap.size w wr)))
    case atStart => exact ⟨Nat.le_refl _, rfl, .inl ⟨rfl, rfl, rfl⟩⟩
    case round =>
      obtain ⟨hr, rfl, hcase⟩ := hrel
      cases gk with
      | zero =>
        obtain ⟨h, _, _⟩ | ⟨_, hown, bel⟩ := hcase
        · omega
        · go_wp2
          obtain ⟨hxl, ⟨_, h0⟩ | ⟨g, cap, cur, rfl, hrest⟩⟩ := hown
          · omega
          · go_ret
            exact ⟨n, g, cap, HL.out, rfl, ⟨hxl, .inr ⟨g, cap, cur, rfl, hrest⟩⟩, bel⟩
      | succ i =>
        rw [show ((i + 1 : Nat) : Int) - 1 = (i : Int) by omega]
        obtain ⟨h, rfl, rfl⟩ | ⟨hlt, hown, bel⟩ := hcase
        · go_wp2_with (at_builtin; refine wpList_append_grows _ rfl _ _ 22 rfl 5 i0 (.int .u8 0) 1 1 Yba.underlying22 hi hz0 hz1 hz2 rfl (by decide) ao m m olds rfl hnone hlo ?c1 ⟨wr.heap.size, 0, none⟩ 1 1 [.int .u8 (v / 2 ^ (8 * i) % 256)] rfl rfl ?c3 ?c6 ?c7 ?c4 ?c5 ?_)
          case c1 => exact fun b hb j u hu => cell_stays ((Below.refl _ _).alloc (Nat.le_refl _) _) (holds b hb j u hu) (Nat.le_refl _)
          case c3 => exact cell_one_new _ _ _
          case c6 => simp [Value.oneCell']
          case c7 => omega
          case c4 => simp only [maxLen]; omega
          case c5 => omega
          intro v' w1 hown hg
          have HO : Hid (w1.ownsRow wr.heap.size 5 1 v' (m + (n - i)) (olds ++ octs v n i)) := by
            rw [octs_step v n i hr, show octs v n (i + 1) = [] by simp [octs, h], List.nil_append, ← h, show i + 1 - i = 1 by omega]
            exact own_low hown (Nat.le_succ _)
          have HB : Hid (Below wr.heap.size wr w1) := ((Below.refl _ _).alloc (Nat.le_refl _) _).grown hg (alloc_ge (Nat.le_refl _)) (fun k hk => nomatch hk)
          clear hown hg
          go_wp2
          go_roundg i
          case rel => exact ⟨by omega, rfl, .inr ⟨by omega, HO.out, HB.out⟩⟩
          case measure => omega
        · go_wp2_with (at_builtin; refine wpList_append_own _ rfl _ _ 22 rfl w.heap.size 5 i0 (.int .u8 0) 1 1 Yba.underlying22 hi hz0 hz1 hz2 rfl (by decide) _ _ _ rfl (hown.alloc _) ⟨wr.heap.size, 0, none⟩ 1 1 [.int .u8 (v / 2 ^ (8 * i) % 256)] rfl rfl ?c3 ?c6 ?c4 ?c5 ?c7 ?_)
          case c3 => exact cell_one_new _ _ _
          case c6 => simp [Value.oneCell']
          case c7 => exact alloc_ge bel.size
          case c4 => simp only [maxLen]; omega
          case c5 => omega
          intro v' w1 hown' hg _
          have HB : Hid (Below w.heap.size w w1) := ((bel.alloc bel.size _).grown hg (alloc_ge bel.size) (fun k hk => own_block hown hk))
          have HO : Hid (w1.ownsRow w.heap.size 5 1 v' (m + (n - i)) (olds ++ octs v n i)) := by
            rw [octs_step v n i hr, show m + (n - i) = m + (n - (i + 1)) + 1 by omega]
            exact (List.append_assoc olds _ _ ▸ hown' : w1.ownsRow w.heap.size 5 1 v' (m + (n - (i + 1)) + 1) (olds ++ (octs v n (i + 1) ++ [.int .u8 (v / 2 ^ (8 * i) % 256)])))
          clear hown' hg
          go_wp2
          go_roundg i
          case rel => exact ⟨by omega, rfl, .inr ⟨by omega, HO.out, HB.out⟩⟩
          case measure => omega

end Go.Proofs.Ybulkcinq
