/-
  '(*Engine).verifyBook' (number 15).
-/
import Derived.Test.YbulkcincEvents
namespace Go.Proofs.Ybulkcinc
open Go.RowKit

theorem zero39 (w : World) : (zeroValue 39).run Yba.prog w = .ok (.pointer none) w := by kernel_rfl
theorem assert_hit (x : Value) (w : World) : (Instr.typeAssert (.iface 51 x) 99 51 true).run Yba.prog w = .ok (.tuple #[x, .bool true]) w := by
  simp [Instr.typeAssert, run_underlying Yba.underlying51]
theorem assert_miss (t : TypeId) (x : Value) (ht : ¬ t = 51) (w : World) : (Instr.typeAssert (.iface t x) 99 51 true).run Yba.prog w = .ok (.tuple #[.pointer none, .bool false]) w := by
  simp [Instr.typeAssert, run_underlying Yba.underlying51, ht]
/-- A look-up in a map keyed by strings, of which the entries are known. -/
theorem look_str {P : Program} {t k e : TypeId} {w : World} {mb cl : Nat} {es : Array MapEntry} {s : ByteArray} {z : Value} {r : Option (Nat × Value)}
    (ht : P.underlying t = some (.map k e)) (hk : P.underlying k = some .string) (hz : (zeroValue e).run P w = .ok z w)
    (hm : w.heap[mb]? = some (.map es cl)) (hf : Instr.findNow .string (.string s) es.toList 0 = some r) :
    (Instr.lookup t (.map (some mb)) (.string s) false).run P w = .ok ((r.map (·.2)).getD z) w := by
  have hc := MapKept.run_checkKey (P := P) (w := w) (k := .string s) hk (by simp [MapKept.IsKey]) es.isEmpty 9999
  have hg := MapKept.run_findKey (P := P) (w := w) (k := .string s) hk hf
  cases r <;> simp [Instr.lookup, run_underlying ht, MapKept.run_getObj_map hm, hc, hg, hz, Result.andThen]
/-- A look-up in a map without entries. -/
theorem look_empty (w : World) (mb cl : Nat) (s : ByteArray) (hm : w.heap[mb]? = some (.map #[] cl)) :
    (Instr.lookup 27 (.map (some mb)) (.string s) false).run Yba.prog w = .ok (.pointer none) w :=
  look_str (r := none) Yba.underlying27 Yba.underlying9 (zero39 w) hm rfl

/-- The events as 'verifyBook' meets them. -/
def EvsAt (B : Nat) (w : World) (g : Nat) (n : Nat) (R : Nat → Rep) : Prop := ∀ i, i < n → ∃ v, w.cell? ⟨g, i, none⟩ = some v ∧ EvAt B w v (R i)

set_option maxRecDepth 100000 in
set_option maxHeartbeats 1000000 in
/-- No book under the symbol: the events decide. -/
theorem vbook15_none (eb mb cl B g n c : Nat) (es : Array MapEntry) (s : ByteArray) (R : Nat → Rep) (w : World) (he : w.cell? ⟨eb, 0, none⟩ = some (.map (some mb))) (hm : w.heap[mb]? = some (.map es cl))
    (hf : Instr.findNow .string (.string s) es.toList 0 = some none) (hev : EvsAt B w g n R) (hn : n ≤ 1024) :
    Calls Yba.prog 15 #[.pointer (some ⟨eb, 0, none⟩), .string s, .slice (some ⟨g, 0, none⟩) n c] w fun e w' => e = .returned (ruleOf (badTo R n)) ∧ ∃ m, w' = w.drewN m := by
  have hl : (Instr.lookup 27 (.map (some mb)) (.string s) false).run Yba.prog w = .ok (.pointer none) w := look_str Yba.underlying27 Yba.underlying9 (zero39 w) hm hf
  clear hm hf
  go_enter Yba.func15, Yba.ntmps15
  go_wp2
  go_loopw [61] (fun i wr => ∃ k m : Nat, k ≤ n ∧ i = .int .i64 k ∧ badTo R k = false ∧ wr = w.drewN m) (fun i _ => n - (intOf i).toNat)
  case atStart => exact ⟨0, 0, Nat.zero_le _, rfl, rfl, rfl⟩
  case round =>
    obtain ⟨k, m, hk, rfl, hb, rfl⟩ := hrel
    have HB : Hid (badTo R k = false) := hb
    clear hb
    by_cases hlt : k < n
    · obtain ⟨v, hv, hev1⟩ := hev k hlt
      rcases hev1 with ⟨hz, b, rfl, _, c8, c7, c9, c10, c11⟩ | ⟨hz, t, x, rfl, ht⟩
      · have ha := assert_hit (.pointer (some ⟨b, 0, none⟩))
        go_wp2_with (go_at_call 23; refine (keeps23 b _ _ _ _ _ _ (by simpa using c8) (by simpa using c7) (by simpa using c9) (by simpa using c10) (by simpa using c11)).mono ?_)
        rintro e w1 ⟨rfl, m1, rfl⟩
        cases hkk : keepsB ((R k).status % 8) (R k).qty (R k).ex (R k).pr (R k).re
        · have HK : Hid (badTo R n = true) := badTo_mono (k := k + 1) (by omega) (by simp [badTo, badRep, hz, hkk])
          clear hkk
          go_wp2
          go_ret
          exact ⟨by rw [HK.out]; rfl, _, rfl⟩
        · have HK : Hid (badTo R (k + 1) = false) := by have := HB.out; show _ = _; simp [badTo, badRep, hkk, this]
          clear hkk
          go_wp2
          go_roundw
          case rel => exact ⟨k + 1, m + m1, by omega, by go_num, HK.out, rfl⟩
          case measure => simp [intOf]; omega
      · have ha := assert_miss t x ht
        go_wp2
        go_roundw
        case rel => exact ⟨k + 1, m, by omega, by go_num, by have := HB.out; simp [badTo, badRep, hz, this], rfl⟩
        case measure => simp [intOf]; omega
    · go_wp2
      go_ret
      have : k = n := by omega
      subst this
      exact ⟨by rw [HB.out]; rfl, m, rfl⟩

end Go.Proofs.Ybulkcinc
