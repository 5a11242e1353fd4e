/-
  The small functions: Lit.Var (7), Lit.Holds (8), simulation.holds (6), zzs4238cholds (5).
-/
import Derived.Test.YbulkcitaProg
import Derived.WalkKit
import Derived.WalkSpells
import Derived.WalkLawsBesides
import Derived.Deep.LoopGhost
import Derived.Deep.RegionHeld3
import Derived.Deep.QuietTactic
import Derived.OwnWalk
namespace Go.Proofs.Ybulkcita
open Go.RowKit

theorem and1 (l : Nat) (hl : l < 4294967296) : bits .and .u32 (l : Int) 1 = ((l % 2 : Nat) : Int) := by
  have h := bits_mask .u32 32 (by decide) (fun n h0 h1 => by simp [IntKind.wrap, IntKind.signed, IntKind.bits]; omega) 1 (by decide) (l : Int) (by omega) (by omega)
  simpa using h

theorem and1_eq (l : Nat) (hl : l < 4294967296) : (bits .and .u32 (l : Int) 1 == 0) = (l % 2 == 0) := by
  rw [and1 l hl]
  rcases Nat.mod_two_eq_zero_or_one l with h | h <;> simp [h]

/-- A callee that draws nothing, met in a region that draws. -/
theorem quiet_at {P : Program} {f : FuncId} {args : Array Value} {w : World} {n : Nat} {v : Value}
    (h : Calls P f args (w.drewN n) fun e w' => e = .returned v ∧ w' = w.drewN n) : Calls P f args (w.drewN n) fun e w'' => e = .returned v ∧ ∃ m, w'' = w.drewN m :=
  h.mono fun _ _ ⟨he, hm⟩ => ⟨he, n, hm⟩

set_option maxRecDepth 100000 in
theorem var7 (w : World) (l : Nat) (hl : l < 4294967296) : Calls Yba.prog 7 #[.int .u32 l] w fun e w' => e = .returned (.int .i64 ((l / 2 : Nat) : Int)) ∧ w' = w := by
  go_enter Yba.func7, Yba.ntmps7
  go_wp2
  go_ret
  exact ⟨rfl, rfl⟩

set_option maxRecDepth 100000 in
theorem holds8 (w : World) (l : Nat) (hl : l < 4294967296) : Calls Yba.prog 8 #[.int .u32 l] w fun e w' => e = .returned (.bool (l % 2 == 0)) ∧ w' = w := by
  go_enter Yba.func8, Yba.ntmps8
  go_wp2
  rw [and1_eq l hl]
  go_ret
  exact ⟨rfl, rfl⟩

/-- A literal holds. -/
def lit (V : Nat → Int) (l : Nat) : Bool := (V (l / 2) == 1) == (l % 2 == 0)

set_option maxRecDepth 100000 in
theorem zholds5 (w : World) (b : Nat) (n : Nat) (V : Nat → Int) (l : Nat) (hl : l < 2 * n) (hn : n ≤ 1024) (hc : ∀ j, j < n → w.cell? ⟨b, j, none⟩ = some (.int .i8 (V j))) :
    Calls Yba.prog 5 #[.slice (some ⟨b, 0, none⟩) n n, .int .u32 l] w fun e w' => e = .returned (.bool (lit V l)) ∧ w' = w := by
  have hc := hc (l / 2) (by omega)
  go_enter Yba.func5, Yba.ntmps5
  go_wp2
  rw [and1_eq l (by omega)]
  go_ret
  exact ⟨rfl, rfl⟩

set_option maxRecDepth 100000 in
theorem holds6 (w : World) (s b : Nat) (n : Nat) (V : Nat → Int) (l : Nat) (hl : l < 2 * n) (hn : n ≤ 1024) (hs : w.cell? ⟨s, 2, none⟩ = some (.slice (some ⟨b, 0, none⟩) n n)) (hc : ∀ j, j < n → w.cell? ⟨b, j, none⟩ = some (.int .i8 (V j))) :
    Calls Yba.prog 6 #[.pointer (some ⟨s, 0, none⟩), .int .u32 l] w fun e w' => e = .returned (.bool (lit V l)) ∧ ∃ m, w' = w.drewN m := by
  have hc := hc (l / 2) (by omega)
  have hl2 : l / 2 < n := by omega
  have hl4 : l < 4294967296 := by omega
  have hv := fun w => var7 w l hl4
  unfold lit
  generalize l / 2 = q at hc hl2 hv ⊢
  go_enter Yba.func6, Yba.ntmps6
  go_wp2_with fail
  go_quiet (first | (go_at_call 7; exact quiet_at (hv _)) | (go_at_call 8; exact quiet_at (holds8 _ l hl4)))
  go_wp2
  go_ret
  exact ⟨rfl, _, rfl⟩

theorem cell_stays {B : Nat} {w w' : World} (h : Below B w w') {a : Addr} {v : Value} (hc : w.cell? a = some v) (hB : w.heap.size ≤ B) : w'.cell? a = some v := by
  rw [h.cell (Nat.lt_of_lt_of_le (World.block_lt_of_cell? w a hc) hB)]; exact hc

theorem belowN {B : Nat} {a w : World} (h : Below B a w) (m : Nat) : Below B a (w.drewN m) := h.trans ⟨rfl, rfl, rfl, Nat.le_refl _, fun _ _ => rfl⟩

/-- What 'works' answers. -/
def worked (V : Nat → Int) (k a b c : Nat) : Bool := if k = 2 then lit V a && lit V b else if k = 3 then (if lit V a then lit V b else lit V c) else false

/-- What 'holds' needs of the world. -/
structure Sim (w : World) (s b n : Nat) (V : Nat → Int) : Prop where
  value : w.cell? ⟨s, 2, none⟩ = some (.slice (some ⟨b, 0, none⟩) n n)
  at_ : ∀ j, j < n → w.cell? ⟨b, j, none⟩ = some (.int .i8 (V j))

theorem Sim.below {w w' : World} {s b n : Nat} {V : Nat → Int} (h : Sim w s b n V) (hb : Below w.heap.size w w') : Sim w' s b n V :=
  ⟨cell_stays hb h.value (Nat.le_refl _), fun j hj => cell_stays hb (h.at_ j hj) (Nat.le_refl _)⟩

theorem holdsB {W w : World} {s b n : Nat} {V : Nat → Int} (h : Sim W s b n V) (hb : Below W.heap.size W w) (hn : n ≤ 1024) (l : Nat) (hl : l < 2 * n) :
    Calls Yba.prog 6 #[.pointer (some ⟨s, 0, none⟩), .int .u32 l] w fun e w' => e = .returned (.bool (lit V l)) ∧ ∃ m, w' = w.drewN m :=
  holds6 w s b n V l hl hn (h.below hb).value (h.below hb).at_

set_option maxRecDepth 100000 in
theorem works4 (w : World) (s e g b : Nat) (n : Nat) (V : Nat → Int) (i k : Nat) (a1 a2 a3 : Nat) (hi : i < n) (h1 : a1 < 2 * n) (h2 : a2 < 2 * n) (h3 : a3 < 2 * n) (hn : n ≤ 1024)
    (hs0 : w.cell? ⟨s, 0, none⟩ = some (.pointer (some ⟨e, 0, none⟩))) (he : w.cell? ⟨e, 4, none⟩ = some (.slice (some ⟨g, 0, none⟩) n n))
    (g0 : w.cell? ⟨g, i * 5, none⟩ = some (.int .u8 k)) (g1 : w.cell? ⟨g, i * 5 + 1, none⟩ = some (.int .i64 0)) (g2 : w.cell? ⟨g, i * 5 + 2, none⟩ = some (.int .u32 a1)) (g3 : w.cell? ⟨g, i * 5 + 3, none⟩ = some (.int .u32 a2)) (g4 : w.cell? ⟨g, i * 5 + 4, none⟩ = some (.int .u32 a3))
    (hsim : Sim w s b n V) :
    Calls Yba.prog 4 #[.pointer (some ⟨s, 0, none⟩), .int .i64 i] w fun r w' => r = .returned (.bool (worked V k a1 a2 a3)) ∧ Below w.heap.size w w' := by
  obtain ⟨o, ho⟩ : ∃ o, o = Obj.cells #[.int .u8 k, .int .i64 0, .int .u32 a1, .int .u32 a2, .int .u32 a3] 35 (0, 0) := ⟨_, rfl⟩
  have bel0 : Below w.heap.size w (w.alloc o) := (Below.refl _ _).alloc (Nat.le_refl _) o
  have HB : Hid (Below w.heap.size w (w.alloc o)) := bel0
  clear bel0
  subst ho
  obtain ⟨r, HR⟩ : ∃ r, Hid (r = worked V k a1 a2 a3) := ⟨_, rfl⟩
  rw [← HR.out]
  by_cases hk2 : k = 2
  · have hw : Hid (r = (lit V a1 && lit V a2)) := show _ = _ by rw [HR.out]; simp [worked, hk2]
    have hk' : ((k : Int) == 2) = true := by simp [hk2]
    clear hk2
    go_enter Yba.func4, Yba.ntmps4
    go_wp2_with fail
    refine (holdsB hsim HB.out hn a1 h1).mono ?_
    rintro e1 w1 ⟨rfl, m1, rfl⟩
    cases hlit : lit V a1 with
    | true =>
      go_wp2_with fail
      refine (holdsB hsim (belowN HB.out m1) hn a2 h2).mono ?_
      rintro e1 w2 ⟨rfl, m2, rfl⟩
      go_wp2
      go_ret
      exact ⟨by rw [hw.out]; simp [hlit], belowN HB.out _⟩
    | false =>
      go_wp2
      go_ret
      exact ⟨by rw [hw.out]; simp [hlit], belowN HB.out _⟩
  · have hk' : ((k : Int) == 2) = false := by simp; omega
    by_cases hk3 : k = 3
    · have hw : Hid (r = (if lit V a1 then lit V a2 else lit V a3)) := show _ = _ by rw [HR.out]; simp [worked, hk3]
      have hk3' : ((k : Int) == 3) = true := by simp [hk3]
      clear hk3 hk2
      go_enter Yba.func4, Yba.ntmps4
      go_wp2_with fail
      refine (holdsB hsim HB.out hn a1 h1).mono ?_
      rintro e1 w1 ⟨rfl, m1, rfl⟩
      cases hlit : lit V a1 with
      | true =>
        go_wp2_with fail
        refine (holdsB hsim (belowN HB.out m1) hn a2 h2).mono ?_
        rintro e1 w2 ⟨rfl, m2, rfl⟩
        go_wp2
        go_ret
        exact ⟨by rw [hw.out]; simp [hlit], belowN HB.out _⟩
      | false =>
        go_wp2_with fail
        refine (holdsB hsim (belowN HB.out m1) hn a3 h3).mono ?_
        rintro e1 w2 ⟨rfl, m2, rfl⟩
        go_wp2
        go_ret
        exact ⟨by rw [hw.out]; simp [hlit], belowN HB.out _⟩
    · have hw : Hid (r = false) := show _ = _ by rw [HR.out]; simp [worked, hk2, hk3]
      have hk3' : ((k : Int) == 3) = false := by simp; omega
      clear hk3 hk2
      go_enter Yba.func4, Yba.ntmps4
      go_wp2
      go_ret
      exact ⟨by rw [hw.out]; rfl, HB.out⟩

end Go.Proofs.Ybulkcita
