/-
  'zzs4227bwantevents' (number 17): what the law wants of the events.
-/
import Derived.Test.YbulkcincKeeps
namespace Go.Proofs.Ybulkcinc
open Go.RowKit

/-- One drawn event. -/
structure Rep where
  kind : Int
  status : Int
  qty : Int
  ex : Int
  pr : Int
  re : Int

/-- The drawn numbers fit their kinds. -/
def Rep.fits (r : Rep) : Prop := (0 ≤ r.kind ∧ r.kind ≤ 255) ∧ (0 ≤ r.status ∧ r.status ≤ 255)

/-- An order report that breaks the rule. -/
def badRep (r : Rep) : Bool := r.kind % 3 == 0 && !keepsB (r.status % 8) r.qty r.ex r.pr r.re

/-- One of the first n does. -/
def badTo (R : Nat → Rep) : Nat → Bool
  | 0 => false
  | n + 1 => badTo R n || badRep (R n)

theorem badTo_mono {R : Nat → Rep} {k n : Nat} (h : k ≤ n) (hb : badTo R k = true) : badTo R n = true := by
  induction n with
  | zero => have : k = 0 := by omega
            subst this; exact hb
  | succ n ih =>
    rcases Nat.lt_or_ge n k with hlt | hge
    · have : k = n + 1 := by omega
      subst this; exact hb
    · simp [badTo, ih hge]

/-- The row of drawn events in memory. -/
structure RepsAt (w : World) (a : Option Addr) (n : Nat) (R : Nat → Rep) : Prop where
  cells : 0 < n → ∃ b off, a = some ⟨b, off, none⟩ ∧ b < w.heap.size ∧ ∀ i, i < n →
    w.cell? ⟨b, off + i * 6, none⟩ = some (.int .u8 (R i).kind) ∧ w.cell? ⟨b, off + i * 6 + 1, none⟩ = some (.int .u8 (R i).status) ∧
    w.cell? ⟨b, off + i * 6 + 2, none⟩ = some (.int .i64 (R i).qty) ∧ w.cell? ⟨b, off + i * 6 + 3, none⟩ = some (.int .i64 (R i).ex) ∧
    w.cell? ⟨b, off + i * 6 + 4, none⟩ = some (.int .i64 (R i).pr) ∧ w.cell? ⟨b, off + i * 6 + 5, none⟩ = some (.int .i64 (R i).re)
  fits : ∀ i, i < n → (R i).fits

theorem RepsAt.below {w w' : World} {a : Option Addr} {n : Nat} {R : Nat → Rep} (h : RepsAt w a n R) (hb : Below w.heap.size w w') : RepsAt w' a n R := by
  refine ⟨fun hn => ?_, h.fits⟩
  obtain ⟨b, off, ha, hlt, hc⟩ := h.cells hn
  refine ⟨b, off, ha, Nat.lt_of_lt_of_le hlt hb.size, fun i hi => ?_⟩
  obtain ⟨c0, c1, c2, c3, c4, c5⟩ := hc i hi
  exact ⟨(hb.cell (p := ⟨b, _, none⟩) hlt).trans c0, (hb.cell (p := ⟨b, _, none⟩) hlt).trans c1, (hb.cell (p := ⟨b, _, none⟩) hlt).trans c2,
    (hb.cell (p := ⟨b, _, none⟩) hlt).trans c3, (hb.cell (p := ⟨b, _, none⟩) hlt).trans c4, (hb.cell (p := ⟨b, _, none⟩) hlt).trans c5⟩

def ruleOf (bad : Bool) : Value := if bad then .string ⟨#[81, 85, 65, 78, 84, 73, 84, 89, 95, 82, 85, 76, 69]⟩ else .string ⟨#[]⟩

set_option maxHeartbeats 1000000 in
theorem want17 (a : Option Addr) (n c : Nat) (R : Nat → Rep) (w : World) (h : RepsAt w a n R) (hn : n ≤ 1024) :
    Calls Yba.prog 17 #[.slice a n c] w fun e w' => e = .returned (ruleOf (badTo R n)) ∧ Below w.heap.size w w' := by
  go_enter Yba.func17, Yba.ntmps17
  go_wp2
  go_loopw [7] (fun i wr => ∃ k : Nat, k ≤ n ∧ i = .int .i64 k ∧ badTo R k = false ∧ Below w.heap.size w wr) (fun i _ => n - (intOf i).toNat)
  case atStart => exact ⟨0, Nat.zero_le _, rfl, rfl, Below.refl _ _⟩
  case round =>
    obtain ⟨k, hk, rfl, hb, hbel⟩ := hrel
    have HB : Hid (badTo R k = false) := hb
    clear hb
    by_cases hlt : k < n
    · obtain ⟨b, off, rfl, _, hc⟩ := (h.below hbel).cells (by omega)
      obtain ⟨g0, g1, g2, g3, g4, g5⟩ := hc k hlt
      obtain ⟨⟨f1, f2⟩, f3, f4⟩ := h.fits k hlt
      go_wp2_with fail
      · have hz : (R k).kind % 3 = 0 := by assumption
        refine (keeps24 _ _ _ _ _ _ _ f3 f4).mono ?_
        rintro e w1 ⟨rfl, hb1⟩
        have hbel1 : Below w.heap.size w w1 := (hbel.alloc hbel.size _).trans (hb1.mono (by have := hbel.size; simp; omega))
        cases hkk : keepsB ((R k).status % 8) (R k).qty (R k).ex (R k).pr (R k).re
        · have HK : Hid (badTo R n = true) := badTo_mono (k := k + 1) (by omega) (by simp [badTo, badRep, hz, hkk])
          clear hkk
          go_wp2
          go_ret
          exact ⟨by rw [HK.out]; rfl, hbel1⟩
        · have HK : Hid (badTo R (k + 1) = false) := by have := HB.out; show _ = _; simp [badTo, badRep, hkk, this]
          clear hkk
          go_wp2
          go_roundw
          case rel => exact ⟨k + 1, by omega, by go_num, HK.out, hbel1⟩
          case measure => simp [intOf]; omega
      · have hz : ¬ (R k).kind % 3 = 0 := by assumption
        go_roundw
        case rel => exact ⟨k + 1, by omega, by go_num, by have := HB.out; simp [badTo, badRep, hz, this], hbel.alloc hbel.size _⟩
        case measure => simp [intOf]; omega
    · go_wp2
      go_ret
      have : k = n := by omega
      subst this
      exact ⟨by rw [HB.out]; rfl, hbel⟩

end Go.Proofs.Ybulkcinc
