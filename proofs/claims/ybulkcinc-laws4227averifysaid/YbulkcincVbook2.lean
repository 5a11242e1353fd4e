/-
  '(*Engine).verifyBook' (number 15) where there is a book under the symbol.
-/
import Derived.Test.YbulkcincLadder
namespace Go.Proofs.Ybulkcinc
open Go.RowKit

def crossedV : Value := .string ⟨#[67, 82, 79, 83, 83, 69, 68, 95, 66, 79, 79, 75]⟩

/-- The rule of a book. -/
def vrule (b1 : Int) (h1 o1 : Bool) (b2 : Int) (h2 o2 : Bool) (bad : Bool) : Value :=
  if h1 && h2 && decide (b2 ≤ b1) then crossedV else if !o1 || !o2 then ruleOf true else ruleOf bad

theorem LevelsAt.drewN {w : World} {a : Option Addr} {n : Nat} {C : Nat → List Ord} (h : LevelsAt w a n C) (m : Nat) : LevelsAt (w.drewN m) a n C := by
  intro i hi
  obtain ⟨g, vb, hd, ha, h1, h2, h3⟩ := h i hi
  refine ⟨g, vb, hd, ha, h1, h2, ?_⟩
  clear h1 h2 hi
  generalize C i = l at h3
  induction l generalizing hd with
  | nil => exact h3
  | cons o r ih =>
    obtain ⟨b, nx, e, c6, c7, c8, c9, c10, c15, hr⟩ := h3
    exact ⟨b, nx, e, c6, c7, c8, c9, c10, c15, ih _ hr⟩

set_option maxRecDepth 100000 in
set_option maxHeartbeats 4000000 in
theorem vbook15_book (eb mb cl B g n c bb j : Nat) (es : Array MapEntry) (s : ByteArray) (R : Nat → Rep) (w : World) (he : w.cell? ⟨eb, 0, none⟩ = some (.map (some mb))) (hm : w.heap[mb]? = some (.map es cl))
    (hf : Instr.findNow .string (.string s) es.toList 0 = some (some (j, .pointer (some ⟨bb, 0, none⟩)))) (hev : EvsAt B w g n R) (hn : n ≤ 1024)
    (a1 a2 : Option Addr) (n1 c1 n2 c2 : Nat) (C1 C2 : Nat → List Ord) (b2 : w.cell? ⟨bb, 2, none⟩ = some (.slice a1 n1 c1)) (b4 : w.cell? ⟨bb, 2 + 2, none⟩ = some (.int .i64 1))
    (b5 : w.cell? ⟨bb, 5, none⟩ = some (.slice a2 n2 c2)) (b7 : w.cell? ⟨bb, 5 + 2, none⟩ = some (.int .i64 (-1))) (hl1 : LevelsAt w a1 n1 C1) (hl2' : LevelsAt w a2 n2 C2) (hn1 : n1 ≤ 1024) (hn2 : n2 ≤ 1024)
    (be1 be2 : Int) (he1 ho1 he2 ho2 : Bool) (hs1 : vfold 1 ⟨0, false, true⟩ (flatTo C1 n1) = ⟨be1, he1, ho1⟩) (hs2 : vfold (-1) ⟨0, false, true⟩ (flatTo C2 n2) = ⟨be2, he2, ho2⟩) :
    Calls Yba.prog 15 #[.pointer (some ⟨eb, 0, none⟩), .string s, .slice (some ⟨g, 0, none⟩) n c] w fun e w' => e = .returned (vrule be1 he1 ho1 be2 he2 ho2 (badTo R n)) ∧ ∃ m, w' = w.drewN m := by
  have hl : (Instr.lookup 27 (.map (some mb)) (.string s) false).run Yba.prog w = .ok (.pointer (some ⟨bb, 0, none⟩)) w := look_str Yba.underlying27 Yba.underlying9 (zero39 w) hm hf
  clear hm hf
  have H1 : Hid (vfold 1 ⟨0, false, true⟩ (flatTo C1 n1) = ⟨be1, he1, ho1⟩) := hs1
  have H2 : Hid (vfold (-1) ⟨0, false, true⟩ (flatTo C2 n2) = ⟨be2, he2, ho2⟩) := hs2
  clear hs1 hs2
  go_enter Yba.func15, Yba.ntmps15
  go_wp2_with fail
  refine (verify22 bb 2 1 a1 n1 c1 C1 w b2 b4 hl1 hn1).mono ?_
  rintro e w1 ⟨rfl, m1, rfl⟩
  rw [H1.out]
  go_wp2_with fail
  refine (verify22 bb 5 (-1) a2 n2 c2 C2 (w.drewN m1) b5 b7 (hl2'.drewN m1) hn2).mono ?_
  rintro e w2 ⟨rfl, m2, rfl⟩
  rw [H2.out]
  clear hl
  cases he1 with
  | false =>
    cases ho1 with
    | false =>
      go_wp2
      go_ret
      exact ⟨rfl, _, rfl⟩
    | true =>
      cases ho2 with
      | false =>
        go_wp2
        go_ret
        exact ⟨rfl, _, rfl⟩
      | true =>
        go_wp2
        go_loopw [61] (fun i wr => ∃ k m : Nat, k ≤ n ∧ i = .int .i64 k ∧ badTo R k = false ∧ wr = w.drewN m) (fun i _ => n - (intOf i).toNat)
        case atStart => exact ⟨0, _, Nat.zero_le _, rfl, rfl, rfl⟩
        case round =>
          obtain ⟨k, m, hk, rfl, hb, rfl⟩ := hrel
          have HB : Hid (badTo R k = false) := hb
          clear hb
          by_cases hlt : k < n
          · obtain ⟨v, hv, hev1⟩ := hev k hlt
            rcases hev1 with ⟨hz, b, rfl, _, c8, c7, c9, c10, c11⟩ | ⟨hz, t, x, rfl, ht⟩
            · have ha := assert_hit (.pointer (some ⟨b, 0, none⟩))
              go_wp2_with (go_at_call 23; refine (keeps23 b _ _ _ _ _ _ (by simpa using c8) (by simpa using c7) (by simpa using c9) (by simpa using c10) (by simpa using c11)).mono ?_)
              rintro e w1 ⟨rfl, m1, rfl⟩
              cases hkk : keepsB ((R k).status % 8) (R k).qty (R k).ex (R k).pr (R k).re
              · have HK : Hid (badTo R n = true) := badTo_mono (k := k + 1) (by omega) (by simp [badTo, badRep, hz, hkk])
                clear hkk
                go_wp2
                go_ret
                exact ⟨by rw [HK.out]; rfl, _, rfl⟩
              · have HK : Hid (badTo R (k + 1) = false) := by have := HB.out; show _ = _; simp [badTo, badRep, hkk, this]
                clear hkk
                go_wp2
                go_roundw
                case rel => exact ⟨k + 1, m + m1, by omega, by go_num, HK.out, rfl⟩
                case measure => simp [intOf]; omega
            · have ha := assert_miss t x ht
              go_wp2
              go_roundw
              case rel => exact ⟨k + 1, m, by omega, by go_num, by have := HB.out; simp [badTo, badRep, hz, this], rfl⟩
              case measure => simp [intOf]; omega
          · go_wp2
            go_ret
            have : k = n := by omega
            subst this
            exact ⟨by rw [HB.out]; rfl, m, rfl⟩
  | true =>
    cases he2 with
    | false =>
      cases ho1 with
      | false =>
        go_wp2
        go_ret
        exact ⟨rfl, _, rfl⟩
      | true =>
        cases ho2 with
        | false =>
          go_wp2
          go_ret
          exact ⟨rfl, _, rfl⟩
        | true =>
          go_wp2
          go_loopw [61] (fun i wr => ∃ k m : Nat, k ≤ n ∧ i = .int .i64 k ∧ badTo R k = false ∧ wr = w.drewN m) (fun i _ => n - (intOf i).toNat)
          case atStart => exact ⟨0, _, Nat.zero_le _, rfl, rfl, rfl⟩
          case round =>
            obtain ⟨k, m, hk, rfl, hb, rfl⟩ := hrel
            have HB : Hid (badTo R k = false) := hb
            clear hb
            by_cases hlt : k < n
            · obtain ⟨v, hv, hev1⟩ := hev k hlt
              rcases hev1 with ⟨hz, b, rfl, _, c8, c7, c9, c10, c11⟩ | ⟨hz, t, x, rfl, ht⟩
              · have ha := assert_hit (.pointer (some ⟨b, 0, none⟩))
                go_wp2_with (go_at_call 23; refine (keeps23 b _ _ _ _ _ _ (by simpa using c8) (by simpa using c7) (by simpa using c9) (by simpa using c10) (by simpa using c11)).mono ?_)
                rintro e w1 ⟨rfl, m1, rfl⟩
                cases hkk : keepsB ((R k).status % 8) (R k).qty (R k).ex (R k).pr (R k).re
                · have HK : Hid (badTo R n = true) := badTo_mono (k := k + 1) (by omega) (by simp [badTo, badRep, hz, hkk])
                  clear hkk
                  go_wp2
                  go_ret
                  exact ⟨by rw [HK.out]; rfl, _, rfl⟩
                · have HK : Hid (badTo R (k + 1) = false) := by have := HB.out; show _ = _; simp [badTo, badRep, hkk, this]
                  clear hkk
                  go_wp2
                  go_roundw
                  case rel => exact ⟨k + 1, m + m1, by omega, by go_num, HK.out, rfl⟩
                  case measure => simp [intOf]; omega
              · have ha := assert_miss t x ht
                go_wp2
                go_roundw
                case rel => exact ⟨k + 1, m, by omega, by go_num, by have := HB.out; simp [badTo, badRep, hz, this], rfl⟩
                case measure => simp [intOf]; omega
            · go_wp2
              go_ret
              have : k = n := by omega
              subst this
              exact ⟨by rw [HB.out]; rfl, m, rfl⟩
    | true =>
      by_cases hlt : be2 ≤ be1
      · have E : Hid (vrule be1 true ho1 be2 true ho2 (badTo R n) = crossedV) := by show _ = _; simp [vrule, hlt]
        go_wp2
        go_ret
        exact ⟨by rw [E.out]; rfl, _, rfl⟩
      · have dlt : decide (be2 ≤ be1) = false := by simpa using hlt
        have E : Hid (vrule be1 true ho1 be2 true ho2 (badTo R n) = vrule 0 false ho1 0 false ho2 (badTo R n)) := by show _ = _; simp [vrule, hlt]
        cases ho1 with
        | false =>
          go_wp2
          go_ret
          exact ⟨by rw [E.out]; rfl, _, rfl⟩
        | true =>
          cases ho2 with
          | false =>
            go_wp2
            go_ret
            exact ⟨by rw [E.out]; rfl, _, rfl⟩
          | true =>
            go_wp2
            go_loopw [61] (fun i wr => ∃ k m : Nat, k ≤ n ∧ i = .int .i64 k ∧ badTo R k = false ∧ wr = w.drewN m) (fun i _ => n - (intOf i).toNat)
            case atStart => exact ⟨0, _, Nat.zero_le _, rfl, rfl, rfl⟩
            case round =>
              obtain ⟨k, m, hk, rfl, hb, rfl⟩ := hrel
              have HB : Hid (badTo R k = false) := hb
              clear hb
              by_cases hlt : k < n
              · obtain ⟨v, hv, hev1⟩ := hev k hlt
                rcases hev1 with ⟨hz, b, rfl, _, c8, c7, c9, c10, c11⟩ | ⟨hz, t, x, rfl, ht⟩
                · have ha := assert_hit (.pointer (some ⟨b, 0, none⟩))
                  go_wp2_with (go_at_call 23; refine (keeps23 b _ _ _ _ _ _ (by simpa using c8) (by simpa using c7) (by simpa using c9) (by simpa using c10) (by simpa using c11)).mono ?_)
                  rintro e w1 ⟨rfl, m1, rfl⟩
                  cases hkk : keepsB ((R k).status % 8) (R k).qty (R k).ex (R k).pr (R k).re
                  · have HK : Hid (badTo R n = true) := badTo_mono (k := k + 1) (by omega) (by simp [badTo, badRep, hz, hkk])
                    clear hkk
                    go_wp2
                    go_ret
                    exact ⟨by rw [E.out, HK.out]; rfl, _, rfl⟩
                  · have HK : Hid (badTo R (k + 1) = false) := by have := HB.out; show _ = _; simp [badTo, badRep, hkk, this]
                    clear hkk
                    go_wp2
                    go_roundw
                    case rel => exact ⟨k + 1, m + m1, by omega, by go_num, HK.out, rfl⟩
                    case measure => simp [intOf]; omega
                · have ha := assert_miss t x ht
                  go_wp2
                  go_roundw
                  case rel => exact ⟨k + 1, m, by omega, by go_num, by have := HB.out; simp [badTo, badRep, hz, this], rfl⟩
                  case measure => simp [intOf]; omega
              · go_wp2
                go_ret
                have : k = n := by omega
                subst this
                exact ⟨by rw [E.out, HB.out]; rfl, m, rfl⟩

end Go.Proofs.Ybulkcinc
