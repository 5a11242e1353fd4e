/-
  'LawS4228ADecode' (number 3).
-/
import Derived.Test.YbulkcinqClone
import Derived.Test.YbulkcinqPlain
import Derived.Deep.RegionHeld3
import Derived.Deep.QuietTactic
import Derived.Deep.CutBlock
namespace Go.Proofs.Ybulkcinq
open Go.RowKit

theorem z_get (zs : List Int) (j : Nat) (h : j < zs.length) : (zs.map (Value.int .u8))[j]? = some (.int .u8 (zs.getD j 0)) := by
  simp [List.getD_eq_getElem?_getD, List.getElem?_eq_getElem h]

theorem z_at {w : World} {x : Addr} {zs : List Int} (h : ∀ j u, (zs.map (Value.int .u8))[j]? = some u → w.cell? (x.add j) = some u) (j : Nat) (hj : j < zs.length) : w.cell? (x.add j) = some (.int .u8 (zs.getD j 0)) := h j _ (z_get zs j hj)

/-- What is known of the world while the law reads. -/
structure Facts (w wr : World) (ao d : Option Addr) (m n g : Nat) (zs : List Int) (v : Int) : Prop where
  bel : Below w.heap.size w wr
  dst : ∀ x, ao = some x → ∀ j, j < m → wr.cell? (x.add j) = some (.int .u8 (zs.getD j 0))
  d : ∀ x, d = some x → ∀ j, j < m → wr.cell? (x.add j) = some (.int .u8 (zs.getD j 0))
  out : ∀ j, j < m → wr.cell? ⟨g, j, none⟩ = some (.int .u8 (zs.getD j 0))
  tail : ∀ j, j < n → wr.cell? ⟨g, m + j, none⟩ = some (.int .u8 (octet v (n - 1 - j)))

theorem Facts.drewN {w wr : World} {ao d : Option Addr} {m n g : Nat} {zs : List Int} {v : Int} (h : Facts w wr ao d m n g zs v) (k : Nat) : Facts w (wr.drewN k) ao d m n g zs v :=
  ⟨⟨h.bel.os, h.bel.tape, h.bel.output, h.bel.size, h.bel.block⟩, h.dst, h.d, h.out, h.tail⟩

set_option maxRecDepth 100000 in
set_option maxHeartbeats 2000000 in
theorem decode3 (ao : Option Addr) (m cap : Nat) (zs : List Int) (v : Int) (w : World) (hv : (Lit.int .i64 v).wf = true) (hm : m ≤ 1024) (hlo : zs.length = m) (hnone : ao = none → m = 0 ∧ cap = 0)
    (holds : ∀ x, ao = some x → ∀ j u, (zs.map (Value.int .u8))[j]? = some u → w.cell? (x.add j) = some u) :
    Calls Yba.prog 3 #[.slice ao m cap, .int .i64 v] w fun e w' => e = .returned (.bool true) ∧ Below w.heap.size w w' := by
  go_enter Yba.func3, Yba.ntmps3
  go_wp2_with fail
  refine (clone5_any ao m cap (zs.map (.int .u8)) w hm (by simpa using hlo) hnone holds ?_).mono ?_
  · intro u hu
    obtain ⟨z, _, rfl⟩ := List.mem_map.mp hu
    rfl
  rintro e w1 ⟨d, rfl, dnone, hd, bel1⟩
  go_wp2_with fail
  refine (append6 d m (zs.map (.int .u8)) v w1 hm dnone (by simpa using hlo) hd).mono ?_
  rintro e w2 ⟨n, g, cp, hL, rfl, hown, bel2⟩
  have hl1 := hL.lo
  have hl8 := hL.hi
  have b1 : decide ((n : Int) < 1) = false := by simp; omega
  have b2 : decide (8 < (n : Int)) = false := by simp; omega
  have HL : Hid (Len v n) := hL
  have HF : Hid (Facts w w2 ao d m n g zs v) := by
    have bel := bel1.trans (bel2.mono bel1.size)
    refine ⟨bel, fun x hx j hj => cell_stays bel (z_at (holds x hx) j (by omega)) (Nat.le_refl _), fun x hx j hj => cell_stays bel2 (z_at (hd x hx) j (by omega)) (Nat.le_refl _), fun j hj => own_cell hown j _ ?_, fun j hj => own_cell hown (m + j) _ ?_⟩
    · rw [List.getElem?_append_left (by simpa using (by omega : j < zs.length))]; exact z_get zs j (by omega)
    · rw [List.getElem?_append_right (by simp; omega)]; simp only [List.length_map, hlo, Nat.add_sub_cancel_left]; exact octs_get v n j hj
  have hcp : m + n ≤ cp ∧ cp ≤ maxLen := by
    obtain ⟨_, ⟨h, _⟩ | ⟨_, _, _, h, _, _, h1, h2, _, _⟩⟩ := hown
    · cases h
    · cases h; exact ⟨h1, h2⟩
  clear hL hown bel1 bel2 holds hd
  go_wp2
  go_loopg [7] m (fun gk t wr => ∃ i : Nat, i + gk = m ∧ t = .int .i64 i ∧ Facts w wr ao d m n g zs v)
  case atStart => exact ⟨0, by omega, rfl, HF.out⟩
  case round =>
    obtain ⟨i, hi, rfl, hf⟩ := hrel
    have HF : Hid (Facts w wr ao d m n g zs v) := hf
    clear hf
    by_cases hlt : i < m
    · obtain ⟨x, rfl⟩ : ∃ x, ao = some x := by
        cases ao with
        | none => have := hnone rfl; omega
        | some x => exact ⟨x, rfl⟩
      obtain ⟨y, rfl⟩ : ∃ y, d = some y := by
        cases d with
        | none => have := dnone rfl; omega
        | some x => exact ⟨x, rfl⟩
      have r1 := HF.out.dst x rfl i hlt
      have r2 := HF.out.d y rfl i hlt
      have r3 := HF.out.out i hlt
      generalize zs.getD i 0 = z at r1 r2 r3
      go_wp2
      generalize hN : m + n = N
      have hlt2 : i < N := by omega
      go_quiet (fail)
      go_wp2
      subst hN
      go_roundg (gk - 1)
      case rel => exact ⟨i + 1, by omega, by go_num, HF.out.drewN _⟩
      case measure => omega
    · have q0 : wr.cell? ⟨g, m, none⟩ = some (.int .u8 (octet v (n - 1))) := HF.out.tail 0 (by omega)
      have hs := fits v n HL.out hv
      have ht := top_byte v n HL.out hs
      have hns := no_spare v n HL.out hs
      have hq : 0 ≤ octet v (n - 1) ∧ octet v (n - 1) < 256 := by unfold octet; omega
      have HS : Hid (2 ≤ n → (octet v (n - 1) = 0 → 128 ≤ octet v (n - 2)) ∧ (octet v (n - 1) = 255 → octet v (n - 2) < 128)) := hns
      clear hns hs
      obtain ⟨q, hqe⟩ : ∃ q, q = octet v (n - 1) := ⟨_, rfl⟩
      rw [← hqe] at q0 ht hq HS
      clear hqe
      by_cases h128 : 128 ≤ q
      · have HU : Hid ((-1 : Int) = upTo v n 0) := (ht.1 h128).symm
        clear ht
        go_wp2
        go_loopg [9, 10] n (fun gk t9 t10 w3 => ∃ j : Nat, j + gk = n ∧ t9 = .int .i64 (upTo v n j) ∧ t10 = .int .i64 j ∧ w3 = wr)
        case atStart => exact ⟨0, by omega, by rw [← HU.out], rfl, rfl⟩
        case round =>
          obtain ⟨j, hj, rfl, rfl, rfl⟩ := hrel
          by_cases hjn : j < n
          · have rt := HF.out.tail j hjn
            go_wp2
            rw [read_step v n j hjn hv]
            go_roundg (gk - 1)
            case rel => exact ⟨j + 1, by omega, rfl, by go_num, rfl⟩
            case measure => omega
          · rw [show upTo v n j = v by rw [show j = n by omega]; exact upTo_last v n]
            by_cases h2 : 2 ≤ n
            · have q1 : wr.cell? ⟨g, m + 1, none⟩ = some (.int .u8 (octet v (n - 2))) := by
                have := HF.out.tail 1 (by omega)
                rw [show n - 1 - 1 = n - 2 by omega] at this
                exact this
              obtain ⟨s1, s2⟩ := HS.out h2
              generalize octet v (n - 2) = r at q1 s1 s2
              by_cases hq0 : q = 0
              · omega
              · by_cases hq5 : q = 255
                · have s3 := s2 hq5
                  clear s1 s2
                  go_wp2
                  go_ret
                  exact ⟨rfl, HF.out.bel⟩
                · clear s1 s2
                  go_wp2
                  go_ret
                  exact ⟨rfl, HF.out.bel⟩
            · go_wp2
              go_ret
              exact ⟨rfl, HF.out.bel⟩
      · have HU : Hid ((0 : Int) = upTo v n 0) := (ht.2 (by omega)).symm
        clear ht
        go_wp2
        go_loopg [9, 10] n (fun gk t9 t10 w3 => ∃ j : Nat, j + gk = n ∧ t9 = .int .i64 (upTo v n j) ∧ t10 = .int .i64 j ∧ w3 = wr)
        case atStart => exact ⟨0, by omega, by rw [← HU.out], rfl, rfl⟩
        case round =>
          obtain ⟨j, hj, rfl, rfl, rfl⟩ := hrel
          by_cases hjn : j < n
          · have rt := HF.out.tail j hjn
            go_wp2
            rw [read_step v n j hjn hv]
            go_roundg (gk - 1)
            case rel => exact ⟨j + 1, by omega, rfl, by go_num, rfl⟩
            case measure => omega
          · rw [show upTo v n j = v by rw [show j = n by omega]; exact upTo_last v n]
            by_cases h2 : 2 ≤ n
            · have q1 : wr.cell? ⟨g, m + 1, none⟩ = some (.int .u8 (octet v (n - 2))) := by
                have := HF.out.tail 1 (by omega)
                rw [show n - 1 - 1 = n - 2 by omega] at this
                exact this
              obtain ⟨s1, s2⟩ := HS.out h2
              generalize octet v (n - 2) = r at q1 s1 s2
              by_cases hq0 : q = 0
              · have s3 := s1 hq0
                clear s1 s2
                go_wp2
                go_ret
                exact ⟨rfl, HF.out.bel⟩
              · by_cases hq5 : q = 255
                · omega
                · clear s1 s2
                  go_wp2
                  go_ret
                  exact ⟨rfl, HF.out.bel⟩
            · go_wp2
              go_ret
              exact ⟨rfl, HF.out.bel⟩

set_option maxRecDepth 100000 in
theorem decode3_long (ao : Option Addr) (m cap : Nat) (v : Int) (w : World) (hm : 1024 < m) :
    Calls Yba.prog 3 #[.slice ao m cap, .int .i64 v] w fun e w' => e = .returned (.bool true) ∧ Below w.heap.size w w' := by
  go_enter Yba.func3, Yba.ntmps3
  go_wp2
  go_ret
  exact ⟨rfl, Below.refl _ _⟩

end Go.Proofs.Ybulkcinq
