/-
  'LawS4227AVerify' (number 3): the walk.
-/
import Derived.Test.YbulkcincAGot
import Derived.Deep.DeepCutAuto
import Derived.Deep.CutBlock
namespace Go.Proofs.Ybulkcinc
open Go.RowKit

theorem undrew {w w1 : World} {row : Option Nat} (h : w.drew.grownBy w1 row) : w.grownBy w1 row := ⟨h.os, h.tape, h.output, h.size, h.block⟩

set_option maxRecDepth 100000 in
set_option maxHeartbeats 4000000 in
theorem lawA3 (hasB othS : Bool) (d0 m0 : Int) (a4 a5 a6 a7 : Option Addr) (n4 c4 n5 c5 n6 c6 n7 c7 : Nat) (O4 O5 : Nat → Ord) (g : Nat → Grp) (E : Nat → AEv) (w : World)
    (h4 : AOrdsAt w a4 n4 O4) (h5 : AOrdsAt w a5 n5 O5) (h6 : GrpsAt w a6 n6 g) (h7 : AEvRow w a7 n7 E) (hn4 : n4 ≤ 300) (hn5 : n5 ≤ 300) (hn6 : n6 ≤ 300) (hn7 : n7 ≤ 300)
    (hd0 : 0 ≤ d0 ∧ d0 ≤ 255) (hm0 : 0 ≤ m0 ∧ m0 ≤ 255) :
    Calls Yba.prog 3 #[.bool hasB, .bool othS, .int .u8 d0, .int .u8 m0, .slice a4 n4 c4, .slice a5 n5 c5, .slice a6 n6 c6, .slice a7 n7 c7] w fun e w' => e = .returned (.bool true) ∧ Below w.heap.size w w' := by
  obtain ⟨d1, d2⟩ := hd0
  obtain ⟨m1, m2⟩ := hm0
  have hmm := @run_makeMap Yba.prog
  have t4 : decide ((300 : Int) < (n4 : Int)) = false := decide_eq_false (by omega)
  have t5 : decide ((300 : Int) < (n5 : Int)) = false := decide_eq_false (by omega)
  have t6 : decide ((300 : Int) < (n6 : Int)) = false := decide_eq_false (by omega)
  have t7 : decide ((300 : Int) < (n7 : Int)) = false := decide_eq_false (by omega)
  go_enter Yba.func3, Yba.ntmps3
  go_wp2
  go_loopg [73] n6 (fun gk i wr => ∃ k : Nat, k + gk = n6 ∧ i = .int .i64 k ∧ EngInv w w.heap.size wr (fun s => grpTo g s k) #[] 0)
  case atStart => exact ⟨0, by omega, rfl, engine_start w g⟩
  case round =>
    obtain ⟨k, hk, rfl, hinv⟩ := hrel
    by_cases hlt : k < n6
    · have hbel := hinv.2.2.2
      have e1 : wr.cell? ⟨w.heap.size + 1 + 1, 1, none⟩ = some (.map (some (w.heap.size + 1))) := (cellOf hinv.1 1)
      have hsz : w.heap.size + 1 + 1 < wr.heap.size := lt_of_block hinv.1
      have hsz2 : w.heap.size + 1 < wr.heap.size := by omega
      have hsz3 : w.heap.size < wr.heap.size := by omega
      obtain ⟨b, off, rfl, _, hc⟩ := (h6.below hbel).1 (by omega)
      obtain ⟨g0, g1⟩ := hc k hlt
      obtain ⟨⟨f1, f2⟩, f3, f4⟩ := h6.2 k hlt
      obtain ⟨o, hup, hinv1⟩ := hinv.store (acctB ((g k).acct % 3 + 1)) (gnameB (g k).group) (.cells #[.int .u8 (g k).acct, .int .u8 (g k).group] 33)
      have HI : Hid (EngInv w w.heap.size (putObj (wr.alloc (.cells #[.int .u8 (g k).acct, .int .u8 (g k).group] 33)).drew (w.heap.size + 1) o) (fun s => grpTo g s (k + 1)) #[] 0) := hinv1
      have q1 : 0 ≤ (g k).acct % 3 + 1 := by omega
      have q2 : (g k).acct % 3 + 1 ≤ 255 := by omega
      have CA : Hid (∀ W, Calls Yba.prog 7 #[.int .u8 (IntKind.u8.wrap ((g k).acct.tmod 3 + 1))] W fun e w' => e = .returned (.string (acctB ((g k).acct % 3 + 1))) ∧ w' = W) := by
        intro W
        have e : IntKind.u8.wrap ((g k).acct.tmod 3 + 1) = (g k).acct % 3 + 1 := by
          rw [Int.tmod_eq_emod_of_nonneg f1]
          simp [IntKind.wrap, IntKind.bits]
          omega
        rw [e]
        exact acct7 _ _ q1 q2
      clear hc hinv hinv1
      go_wp2_with fail
      go_region_held3 (fun w' => w'.cell? ⟨w.heap.size + 1 + 1, 1, none⟩ = some (.map (some (w.heap.size + 1))) ∧ w'.cell? ⟨wr.heap.size, 0, none⟩ = some (.int .u8 (g k).acct) ∧ w'.cell? ⟨wr.heap.size, 1, none⟩ = some (.int .u8 (g k).group)) (first | (simp [go_sem, World.cell?_alloc_past, *]; done) | (rw [cell_putObj _ _ _ _ _ (by omega), cell_putObj _ _ _ _ _ (by omega), cell_putObj _ _ _ _ _ (by omega)]; simp [go_sem, *]))
        (first | (go_at_call 7; refine (CA.out _).mono ?_; rintro e w' ⟨rfl, rfl⟩) | (go_at_call 6; refine (gname6 (g k).group _ f3 f4).mono ?_; rintro e w' ⟨rfl, rfl⟩))
      go_wp2
      go_roundg (gk - 1)
      case rel => exact ⟨k + 1, by omega, by go_num, HI.out⟩
      case measure => omega
    · obtain rfl : k = n6 := by omega
      go_upto_if 90 with fail
      go_cut [] from 91 to 109 (fun wc => BookInv w w.heap.size (fun s => grpTo g s k) (d0 % 6) (ordsOf (clampO O4) n4) (ordsOf (clampO O5) n5) hasB wc)
      case first =>
        cases hasB with
        | false =>
          go_wp2
          go_meet
          case rel => exact .inl ⟨rfl, hinv⟩
        | true =>
          have hB0 : Hid (Base w w.heap.size (fun s => grpTo g s k) wr.heap.size (d0 % 6) (wr.alloc (.cells #[.string ⟨#[83]⟩, .int .i64 0, .int .i64 0, .int .u8 (d0 % 6), .slice none 0 0] 38))) :=
            ⟨hinv.below ((Below.refl _ _).alloc (Nat.le_refl _) _), by simp [go_sem], lt_of_block hinv.1⟩
          have y0 : (wr.alloc (.cells #[.string ⟨#[83]⟩, .int .i64 0, .int .i64 0, .int .u8 (d0 % 6), .slice none 0 0] 38)).cell? ⟨w.heap.size + 1 + 1, 0, none⟩ = some (.map (some w.heap.size)) := cellOf hB0.out.1.1 0
          have y1 : (wr.alloc (.cells #[.string ⟨#[83]⟩, .int .i64 0, .int .i64 0, .int .u8 (d0 % 6), .slice none 0 0] 38)).cell? ⟨w.heap.size + 1 + 1, 1, none⟩ = some (.map (some (w.heap.size + 1))) := cellOf hB0.out.1.1 1
          have L4 : Hid (∀ W, Base w w.heap.size (fun s => grpTo g s k) wr.heap.size (d0 % 6) W → Calls Yba.prog 8 #[.slice a4 n4 c4, .int .i64 1] W fun e w' => ∃ (al : Option Addr) (nl cl m : Nat), e = .returned (.agg #[.slice al nl cl, .map (some m), .int .i64 1]) ∧ Base w w.heap.size (fun s => grpTo g s k) wr.heap.size (d0 % 6) w' ∧ Below W.heap.size W w' ∧ nl ≤ 1024 ∧
            LevelsAt w' al nl (fun _ => ordsOf (clampO O4) n4) ∧ flatTo (fun _ => ordsOf (clampO O4) n4) nl = ordsOf (clampO O4) n4) := fun W hW => ladC a4 n4 c4 1 O4 h4 (by omega) rfl W hW
          have L5 : Hid (∀ W, Base w w.heap.size (fun s => grpTo g s k) wr.heap.size (d0 % 6) W → Calls Yba.prog 8 #[.slice a5 n5 c5, .int .i64 (-1)] W fun e w' => ∃ (al : Option Addr) (nl cl m : Nat), e = .returned (.agg #[.slice al nl cl, .map (some m), .int .i64 (-1)]) ∧ Base w w.heap.size (fun s => grpTo g s k) wr.heap.size (d0 % 6) w' ∧ Below W.heap.size W w' ∧ nl ≤ 1024 ∧
            LevelsAt w' al nl (fun _ => ordsOf (clampO O5) n5) ∧ flatTo (fun _ => ordsOf (clampO O5) n5) nl = ordsOf (clampO O5) n5) := fun W hW => ladC a5 n5 c5 (-1) O5 h5 (by omega) rfl W hW
          have z7 : w.heap.size + 1 + 1 < wr.heap.size := lt_of_block hinv.1
          have z8 : w.heap.size + 1 < wr.heap.size := Nat.lt_of_succ_lt z7
          have z9 : w.heap.size < wr.heap.size := Nat.lt_of_succ_lt z8
          clear hinv
          go_wp2_with fail
          go_region_held3 (fun w' => w'.cell? ⟨w.heap.size + 1 + 1, 0, none⟩ = some (.map (some w.heap.size)) ∧ w'.cell? ⟨w.heap.size + 1 + 1, 1, none⟩ = some (.map (some (w.heap.size + 1)))) (first | (simp [go_sem, *]; done) | exact ⟨by assumption, by assumption⟩ | (rw [cell_putObj _ _ _ _ _ (by omega), cell_putObj _ _ _ _ _ (by omega)]; simp [go_sem, *]))
            (first
              | (go_at_call_of 8 (n4); refine (L4.out _ ?_).mono ?_; (first | exact hB0.out.drew | exact (hB0.out.alloc _).drew | exact hB0.out.drew.alloc _); rintro e w1 ⟨al1, nl1, cl1, mm1, rfl, hB1, hb1, hk1, hl1, hf1⟩; have x0 : w1.cell? ⟨w.heap.size + 1 + 1, 0, none⟩ = some (.map (some w.heap.size)) := cellOf hB1.1.1 0; have x1 : w1.cell? ⟨w.heap.size + 1 + 1, 1, none⟩ = some (.map (some (w.heap.size + 1))) := cellOf hB1.1.1 1; have z1 : w.heap.size + 1 + 1 < w1.heap.size := lt_of_block hB1.1.1; have z2 : w.heap.size + 1 < w1.heap.size := Nat.lt_of_succ_lt z1; have z3 : w.heap.size < w1.heap.size := Nat.lt_of_succ_lt z2)
              | (go_at_call_of 8 (n5); refine (L5.out _ ?_).mono ?_; (first | exact hB1 | exact hB1.alloc _); rintro e w2 ⟨al2, nl2, cl2, mm2, rfl, hB2, hb2, hk2, hl2, hf2⟩; have x2 : w2.cell? ⟨w.heap.size + 1 + 1, 0, none⟩ = some (.map (some w.heap.size)) := cellOf hB2.1.1 0; have x3 : w2.cell? ⟨w.heap.size + 1 + 1, 1, none⟩ = some (.map (some (w.heap.size + 1))) := cellOf hB2.1.1 1; have z4 : w.heap.size + 1 + 1 < w2.heap.size := lt_of_block hB2.1.1; have z5 : w.heap.size + 1 < w2.heap.size := Nat.lt_of_succ_lt z4; have x5 : w.heap.size < w2.heap.size := Nat.lt_of_succ_lt z5; have u1 := upd_book1 hB2.1.2.1; have u2 := upd_book2 hB2.1.2.1))
          all_goals go_wp2
          all_goals go_meet
          all_goals
            have l1' : LevelsAt w2 al1 nl1 (fun _ => ordsOf (clampO O4) n4) := by
              first
                | exact levels_below hl1 hb2
                | exact levels_below (levels_below hl1 ((Below.refl _ _).alloc (Nat.le_refl _) _)) hb2
            have hbx : Below w2.heap.size w2 (w2.alloc (.map #[] 0)) := (Below.refl _ _).alloc (Nat.le_refl _) _
            first
              | exact book_fin _ _ _ _ _ _ hB2 hk1 hk2 l1' hl2 hf1 hf2
              | rw [show w2.heap.size + 1 = (w2.alloc (.map #[] 0)).heap.size by simp]; exact book_fin (W := w2.alloc (.map #[] 0)) _ _ _ _ _ _ (hB2.alloc _) hk1 hk2 (levels_below l1' hbx) (levels_below hl2 hbx) hf1 hf2
      case rest =>
        obtain ⟨i0, hi, hz0, hz1, hz2⟩ := info_parts Yba.info99
        rename World => wA
        clear hinv hmm
        have hbw : Below w.heap.size w wA := hcut.base
        have HC : Hid (BookInv w w.heap.size (fun s => grpTo g s k) (d0 % 6) (ordsOf (clampO O4) n4) (ordsOf (clampO O5) n5) hasB wA) := hcut
        clear hcut
        go_wp2_with (at_make; refine wpList_make_own _ rfl _ _ 48 rfl wA.heap.size 99 i0 .nilIface 1 Yba.underlying48 hi hz0 hz1 _ _ _ n7 rfl rfl rfl ?b2 ?b3 ?b4 ?_)
        case b2 => rw [hz2]; omega
        case b3 => unfold maxLen; omega
        case b4 => exact Nat.le_refl _
        intro w0 hown0 hgrow0
        go_wp2
        go_loopg [23, 115] n7 (fun gk v i wr => ∃ k : Nat, k + gk = n7 ∧ i = .int .i64 k ∧ v = .slice (some ⟨wA.heap.size, 0, none⟩) k n7 ∧ Below wA.heap.size wA wr ∧ wA.heap.size < wr.heap.size ∧
            ∃ xs, wr.ownsRow wA.heap.size 99 1 (.slice (some ⟨wA.heap.size, 0, none⟩) k n7) k xs ∧ AEvsTo wA.heap.size wr xs k E)
        case atStart => exact ⟨0, by omega, rfl, rfl, (Below.refl _ _).grown hgrow0 (Nat.le_refl _) (fun k hk => by cases hk), (hown0.lt _ rfl).2, [], hown0, rfl, fun i v hv => by cases hv⟩
        case round =>
          obtain ⟨j, hj, rfl, rfl, hbel, hsz, xs, hown, hevs⟩ := hrel
          by_cases hlt : j < n7
          · have hbr : Below w.heap.size w wr := hbw.trans (hbel.mono hbw.size)
            obtain ⟨b, off, rfl, _, hc⟩ := (h7.below hbr).1 (by omega)
            obtain ⟨g0, g1, g2, g3, g4, g5, g6, g7⟩ := hc j hlt
            obtain ⟨⟨f1, f2⟩, ⟨f3, f4⟩, ⟨f5, f6⟩, f7, f8⟩ := h7.2 j hlt
            clear hc hown0 hgrow0 hbr
            by_cases hz : (E j).kind % 4 = 0
            · go_wp2_with (at_builtin; refine wpList_append_fits _ rfl _ _ 48 rfl wA.heap.size 99 i0 1 Yba.underlying48 hi hz1 wA.heap.size j n7 xs rfl (own3 hown) ⟨wr.heap.size + 2, 0, none⟩ 1 1 [.iface 51 (.pointer (some ⟨wr.heap.size + 1, 0, none⟩))] rfl rfl (cell3 _ _ _ _ _) (by simp [Value.oneCell']) hlt ?_)
              intro w1 hown1 hgrow1
              have hb1 := below3 hbel hsz hgrow1
              have he1 := around3 hevs hgrow1 (.inl ⟨hz, wr.heap.size + 1, rfl, by omega, by simp [go_sem, World.cell?_alloc_past], by simp [go_sem, World.cell?_alloc_past], by simp [go_sem, World.cell?_alloc_past], by simp [go_sem, World.cell?_alloc_past], by simp [go_sem, World.cell?_alloc_past]⟩)
              clear hgrow1 hevs hown g0 g1 g2 g3 g4 g5 g6 g7
              go_wp2
              go_roundg (gk - 1)
              case rel => exact ⟨j + 1, by omega, by go_num, rfl, hb1.1, hb1.2, _, hown1, he1⟩
              case measure => omega
            by_cases hz' : (E j).kind % 4 = 1
            · go_wp2_with fail
              go_region_held3 (fun w' => w'.cell? ⟨wr.heap.size, 1, none⟩ = some (.int .u8 (E j).maker) ∧ w'.cell? ⟨wr.heap.size, 2, none⟩ = some (.int .u8 (E j).taker) ∧ w'.cell? ⟨wr.heap.size, 4, none⟩ = some (.int .i64 (E j).qty)) (first | (simp [go_sem, World.cell?_alloc_past, *]; done) | exact ⟨by assumption, by assumption, by assumption⟩)
                (first
                  | (go_at_call_of 7 (E j).maker; refine (acct7 (E j).maker _ f3 f4).mono ?_; rintro e w' ⟨rfl, rfl⟩)
                  | (go_at_call_of 7 (E j).taker; refine (acct7 (E j).taker _ f5 f6).mono ?_; rintro e w' ⟨rfl, rfl⟩)
                  | (refine step_append_fits rfl _ _ 48 rfl wA.heap.size 99 i0 1 Yba.underlying48 hi hz1 wA.heap.size j n7 xs rfl (own3 hown) ⟨wr.heap.size + 2, 0, none⟩ 1 1 [.iface 58 (.pointer (some ⟨wr.heap.size + 1, 0, none⟩))] rfl rfl (cell3 _ _ _ _ _) (by simp [Value.oneCell']) hlt ?_; intro w1 hown1 hgrow1; have t1 : w1.cell? ⟨wr.heap.size, 1, none⟩ = some (.int .u8 (E j).maker) := hgrow1.cell (by simp [go_sem, World.cell?_alloc_past]) (by simp; omega); have t2 : w1.cell? ⟨wr.heap.size, 2, none⟩ = some (.int .u8 (E j).taker) := hgrow1.cell (by simp [go_sem, World.cell?_alloc_past]) (by simp; omega); have t4 : w1.cell? ⟨wr.heap.size, 4, none⟩ = some (.int .i64 (E j).qty) := hgrow1.cell (by simp [go_sem, World.cell?_alloc_past]) (by simp; omega)))
              go_wp2
              have hgrow2 := undrew hgrow1
              have hb1 := below3 hbel hsz hgrow2
              have he1 := around3 hevs hgrow2 (.inr (.inl ⟨hz', wr.heap.size + 1, rfl, by omega, by simp [go_sem, World.cell?_alloc_past], by simp [go_sem, World.cell?_alloc_past]⟩))
              go_roundg (gk - 1)
              case rel => exact ⟨j + 1, by omega, by go_num, rfl, hb1.1, hb1.2, _, hown1, he1⟩
              case measure => omega
            by_cases hz2' : (E j).kind % 4 = 2
            · go_wp2_with (at_builtin; refine wpList_append_fits _ rfl _ _ 48 rfl wA.heap.size 99 i0 1 Yba.underlying48 hi hz1 wA.heap.size j n7 xs rfl (own3 hown) ⟨wr.heap.size + 2, 0, none⟩ 1 1 [.iface 61 (.pointer (some ⟨wr.heap.size + 1, 0, none⟩))] rfl rfl (cell3 _ _ _ _ _) (by simp [Value.oneCell']) hlt ?_)
              intro w1 hown1 hgrow1
              have hb1 := below3 hbel hsz hgrow1
              have he1 := around3 hevs hgrow1 (.inr (.inr ⟨hz, hz', 61, .pointer (some ⟨wr.heap.size + 1, 0, none⟩), rfl, by decide, by decide⟩))
              clear hgrow1 hevs hown g0 g1 g2 g3 g4 g5 g6 g7
              go_wp2
              go_roundg (gk - 1)
              case rel => exact ⟨j + 1, by omega, by go_num, rfl, hb1.1, hb1.2, _, hown1, he1⟩
              case measure => omega
            · go_wp2_with (at_builtin; refine wpList_append_fits _ rfl _ _ 48 rfl wA.heap.size 99 i0 1 Yba.underlying48 hi hz1 wA.heap.size j n7 xs rfl (own3 hown) ⟨wr.heap.size + 2, 0, none⟩ 1 1 [.iface 65 (.pointer (some ⟨wr.heap.size + 1, 0, none⟩))] rfl rfl (cell3 _ _ _ _ _) (by simp [Value.oneCell']) hlt ?_)
              intro w1 hown1 hgrow1
              have hb1 := below3 hbel hsz hgrow1
              have he1 := around3 hevs hgrow1 (.inr (.inr ⟨hz, hz', 65, .pointer (some ⟨wr.heap.size + 1, 0, none⟩), rfl, by decide, by decide⟩))
              clear hgrow1 hevs hown g0 g1 g2 g3 g4 g5 g6 g7
              go_wp2
              go_roundg (gk - 1)
              case rel => exact ⟨j + 1, by omega, by go_num, rfl, hb1.1, hb1.2, _, hown1, he1⟩
              case measure => omega
          · obtain rfl : j = n7 := by omega
            have hbr : Below w.heap.size w wr := hbw.trans (hbel.mono hbw.size)
            have HI : Hid (BookInv w w.heap.size (fun s => grpTo g s k) (d0 % 6) (ordsOf (clampO O4) n4) (ordsOf (clampO O5) n5) hasB wr) := HC.out.below hbel
            have HE : Hid (AEvsAt wA.heap.size wr wA.heap.size j E) := AEvsTo.at hown hevs
            clear HC hown hevs hbel hown0 hgrow0 hsz hi hz0 hz1 hz2 hbw
            go_upto_if 174 with fail
            go_cut [] from 175 to 175 (fun w' => w' = wr.alloc (.cells (newOrderV (if othS then symT else symS) (m0 % 7)) 69))
            case first =>
              cases othS with
              | false =>
                go_wp2
                go_meet
                case rel => rfl
              | true =>
                go_wp2
                go_meet
                case rel => rfl
            case rest =>
              have hb0 : Below wr.heap.size wr (wr.alloc (.cells (newOrderV (if othS then symT else symS) (m0 % 7)) 69)) := (Below.refl _ _).alloc (Nat.le_refl _) _
              have HV : Hid (Calls Yba.prog 9 #[.agg (newOrderV (if othS then symT else symS) (m0 % 7)), .pointer (some ⟨w.heap.size + 2, 0, none⟩), .slice (some ⟨wA.heap.size, 0, none⟩) j j] (wr.alloc (.cells (newOrderV (if othS then symT else symS) (m0 % 7)) 69)) fun e w' =>
                e = .returned (.string (gotB (hasB && !othS) (crossed O4 O5 n4 n5) (okTo O4 n4 && okTo O5 n5) (badTo (toRep E) j) (modeOf (m0 % 7) (d0 % 6)) (selfTo (fun s => grpTo g s k) E j))) ∧ Below (wr.alloc (.cells (newOrderV (if othS then symT else symS) (m0 % 7)) 69)).heap.size (wr.alloc (.cells (newOrderV (if othS then symT else symS) (m0 % 7)) 69)) w') :=
                ver_any hasB othS (m0 % 7) (d0 % 6) w.heap.size wA.heap.size j j E (fun s => grpTo g s k) O4 O5 n4 n5 w _ (HI.out.below hb0) (HE.out.below hb0) (by omega)
              have hbr1 : Below w.heap.size w (wr.alloc (.cells (newOrderV (if othS then symT else symS) (m0 % 7)) 69)) := hbr.trans (hb0.mono hbr.size)
              subst hcut
              clear HI HE hb0
              generalize (if othS then symT else symS) = sym at *
              unfold newOrderV at *
              go_wp2_with fail
              refine HV.out.mono ?_
              rintro e w5 ⟨rfl, hb5⟩
              have hb6 : Below w.heap.size w w5 := hbr1.trans (hb5.mono hbr1.size)
              clear HV hbr1 hb5 hbr
              obtain ⟨gs, HGS⟩ : ∃ gs, Hid (gs = want3 (hasB && !othS) (crossed O4 O5 n4 n5) (okTo O4 n4 && okTo O5 n5) (badTo (toRep E) j) (modeOf (m0 % 7) (d0 % 6)) (selfTo (fun s => grpTo g s k) E j)) := ⟨_, rfl⟩
              rw [show gotB (hasB && !othS) (crossed O4 O5 n4 n5) (okTo O4 n4 && okTo O5 n5) (badTo (toRep E) j) (modeOf (m0 % 7) (d0 % 6)) (selfTo (fun s => grpTo g s k) E j) = gs from (HGS.out.trans (want_is _ _ _ _ _ _)).symm]
              go_upto_region 31 with fail
              go_cut [28] from 180 to 184 (fun v w' => v = .bool (hasB && !othS) ∧ w' = w5)
              case first =>
                cases hasB with
                | false =>
                  go_wp2
                  go_meet
                  case rel => exact ⟨rfl, rfl⟩
                | true =>
                  go_wp2
                  go_meet
                  case rel => exact ⟨rfl, rfl⟩
              case rest =>
                obtain ⟨rfl, rfl⟩ := hcut
                generalize (hasB && !othS) = there at *
                go_upto_if 185 with fail
                go_cut [29] from 186 to 248 (fun v w' => ∃ x, v = .string x ∧ Hid (x = want1 there (crossed O4 O5 n4 n5) (okTo O4 n4 && okTo O5 n5)) ∧ Below w.heap.size w w')
                case first =>
                  cases there with
                  | false =>
                    go_wp2
                    go_meet
                    case rel => exact ⟨_, rfl, rfl, hb6⟩
                  | true =>
                    go_upto_region 34 with fail
                    go_cut [193] from 186 to 192 (fun v w' => v = .bool (decide (0 < n4) && decide (0 < n5)) ∧ w' = wc)
                    case first =>
                      by_cases p4 : 0 < n4
                      · by_cases p5 : 0 < n5
                        · go_wp2
                          go_meet
                          case rel => exact ⟨by simp [p4, p5], rfl⟩
                        · go_wp2
                          go_meet
                          case rel => exact ⟨by simp [p5], rfl⟩
                      · go_wp2
                        go_meet
                        case rel => exact ⟨by simp [p4], rfl⟩
                    case rest =>
                    obtain ⟨rfl, rfl⟩ := hcut
                    go_upto_if 193 with fail
                    go_cut [29] from 186 to 236 (fun v w' => ∃ x, v = .string x ∧ Hid (x = crB (crossed O4 O5 n4 n5)) ∧ Below w.heap.size w w')
                    case first =>
                      by_cases p4 : 0 < n4
                      · by_cases p5 : 0 < n5
                        · have p4' : (0 : Int) < (n4 : Int) := by omega
                          have p5' : (0 : Int) < (n5 : Int) := by omega
                          obtain ⟨b1, o1, ha1, _, hc1⟩ := (h4.below hb6) p4
                          obtain ⟨b2, o2, ha2, _, hc2⟩ := (h5.below hb6) p5
                          subst ha1
                          subst ha2
                          have z1 := (hc1 0 p4).1
                          simp only [Nat.zero_mul, Nat.add_zero] at z1
                          clear hc1 hc2
                          go_wp2_with (go_at_call 10; refine (clamp10 _ _).mono ?_; rintro e w' ⟨rfl, rfl⟩)
                          go_loopg [30, 201] n4 (fun gk v i wr => ∃ q : Nat, q + gk = n4 ∧ i = .int .i64 q ∧ v = .int .i64 (maxTo (clampO O4) q) ∧ Below w.heap.size w wr)
                          case atStart => exact ⟨0, by omega, rfl, rfl, hb6⟩
                          case round =>
                            clear z1 hb6
                            obtain ⟨q, hq, rfl, rfl, hbel⟩ := hrel
                            by_cases hlt : q < n4
                            · obtain ⟨_, _, ha, _, hc⟩ := (h4.below hbel) p4
                              simp only [Option.some.injEq, Addr.mk.injEq, and_true] at ha
                              obtain ⟨rfl, rfl⟩ := ha
                              obtain ⟨g0, g1, g2, g3, g4⟩ := hc q hlt
                              clear hc
                              have HM : Hid (maxTo (clampO O4) (q + 1) = if maxTo (clampO O4) q < (O4 q).price.tmod 1000000 then (O4 q).price.tmod 1000000 else maxTo (clampO O4) q) := rfl
                              generalize maxTo (clampO O4) q = mx at *
                              by_cases hgt : mx < (O4 q).price.tmod 1000000
                              · go_wp2_with (go_at_call 10; refine (clamp10 _ _).mono ?_; rintro e w' ⟨rfl, rfl⟩)
                                go_roundg (gk - 1)
                                case rel => exact ⟨q + 1, by omega, by go_num, by rw [HM.out, if_pos hgt], hbel.alloc hbel.size _⟩
                                case measure => omega
                              · go_wp2_with (go_at_call 10; refine (clamp10 _ _).mono ?_; rintro e w' ⟨rfl, rfl⟩)
                                go_roundg (gk - 1)
                                case rel => exact ⟨q + 1, by omega, by go_num, by rw [HM.out, if_neg (by omega)], hbel.alloc hbel.size _⟩
                                case measure => omega
                            · obtain rfl : q = n4 := by omega
                              have z2 : wr.cell? ⟨b2, o2, none⟩ = some (.int .i64 (O5 0).price) := by
                                obtain ⟨_, _, ha, _, hc⟩ := (h5.below hbel) p5
                                simp only [Option.some.injEq, Addr.mk.injEq, and_true] at ha
                                obtain ⟨rfl, rfl⟩ := ha
                                simpa using (hc 0 p5).1
                              obtain ⟨M4, hM4⟩ : ∃ M4, Hid (M4 = maxTo (clampO O4) q) := ⟨_, rfl⟩
                              rw [show maxTo (clampO O4) q = M4 from hM4.out.symm]
                              go_wp2_with (go_at_call 10; refine (clamp10 _ _).mono ?_; rintro e w' ⟨rfl, rfl⟩)
                              go_loopg [33, 221] n5 (fun gk v i wr => ∃ q : Nat, q + gk = n5 ∧ i = .int .i64 q ∧ v = .int .i64 (minTo (clampO O5) q) ∧ Below w.heap.size w wr)
                              case atStart => exact ⟨0, by omega, rfl, rfl, hbel⟩
                              case round =>
                                clear z2 hbel
                                obtain ⟨q2, hq2, rfl, rfl, hbel⟩ := hrel
                                by_cases hlt2 : q2 < n5
                                · obtain ⟨_, _, ha, _, hc⟩ := (h5.below hbel) p5
                                  simp only [Option.some.injEq, Addr.mk.injEq, and_true] at ha
                                  obtain ⟨rfl, rfl⟩ := ha
                                  obtain ⟨g0, g1, g2, g3, g4⟩ := hc q2 hlt2
                                  clear hc
                                  have HM : Hid (minTo (clampO O5) (q2 + 1) = if (O5 q2).price.tmod 1000000 < minTo (clampO O5) q2 then (O5 q2).price.tmod 1000000 else minTo (clampO O5) q2) := rfl
                                  generalize minTo (clampO O5) q2 = mn at *
                                  by_cases hgt : (O5 q2).price.tmod 1000000 < mn
                                  · go_wp2_with (go_at_call 10; refine (clamp10 _ _).mono ?_; rintro e w' ⟨rfl, rfl⟩)
                                    go_roundg (gk - 1)
                                    case rel => exact ⟨q2 + 1, by omega, by go_num, by rw [HM.out, if_pos hgt], hbel.alloc hbel.size _⟩
                                    case measure => omega
                                  · go_wp2_with (go_at_call 10; refine (clamp10 _ _).mono ?_; rintro e w' ⟨rfl, rfl⟩)
                                    go_roundg (gk - 1)
                                    case rel => exact ⟨q2 + 1, by omega, by go_num, by rw [HM.out, if_neg (by omega)], hbel.alloc hbel.size _⟩
                                    case measure => omega
                                · obtain rfl : q2 = n5 := by omega
                                  obtain ⟨M5, hM5⟩ : ∃ M5, Hid (M5 = minTo (clampO O5) q2) := ⟨_, rfl⟩
                                  rw [show minTo (clampO O5) q2 = M5 from hM5.out.symm]
                                  by_cases hcr : M5 ≤ M4
                                  · have HX : Hid (crB (crossed O4 O5 q q2) = crossB) := by
                                      show _ = _
                                      have : crossed O4 O5 q q2 = true := by
                                        have e1 := hM4.out
                                        have e2 := hM5.out
                                        unfold crossed
                                        rw [← e1, ← e2]
                                        simp [p4, p5, hcr]
                                      rw [this]; rfl
                                    go_wp2
                                    go_meet
                                    case rel => exact ⟨_, rfl, HX.out.symm, hbel⟩
                                  · have HX : Hid (crB (crossed O4 O5 q q2) = ⟨#[]⟩) := by
                                      show _ = _
                                      have : crossed O4 O5 q q2 = false := by
                                        have e1 := hM4.out
                                        have e2 := hM5.out
                                        unfold crossed
                                        rw [← e1, ← e2]
                                        simp [hcr]
                                      rw [this]; rfl
                                    go_wp2
                                    go_meet
                                    case rel => exact ⟨_, rfl, HX.out.symm, hbel⟩
                        · have p4' : (0 : Int) < (n4 : Int) := by omega
                          have p5' : decide ((0 : Int) < (n5 : Int)) = false := decide_eq_false (by omega)
                          go_wp2
                          go_meet
                          case rel => exact ⟨_, rfl, by show _ = _; simp [crossed, p5, crB], hb6⟩
                      · have p4' : decide ((0 : Int) < (n4 : Int)) = false := decide_eq_false (by omega)
                        go_wp2
                        go_meet
                        case rel => exact ⟨_, rfl, by show _ = _; simp [crossed, p4, crB], hb6⟩
                    case rest =>
                      obtain ⟨x, rfl, HX, hb7⟩ := hcut
                      clear hb6
                      cases hcr : crossed O4 O5 n4 n5 with
                      | true =>
                        obtain rfl : x = ⟨#[67, 82, 79, 83, 83, 69, 68, 95, 66, 79, 79, 75]⟩ := HX.out.trans (by rw [hcr]; rfl)
                        have HCR : Hid (crossed O4 O5 n4 n5 = true) := hcr
                        clear HX hcr
                        go_wp2
                        go_meet
                        case rel => exact ⟨_, rfl, by show _ = _; rw [HCR.out]; rfl, hb7⟩
                      | false =>
                        obtain rfl : x = ⟨#[]⟩ := HX.out.trans (by rw [hcr]; rfl)
                        have HCR : Hid (crossed O4 O5 n4 n5 = false) := hcr
                        clear HX hcr
                        cases ok4 : okTo O4 n4 with
                        | false =>
                          go_wp2_with fail
                          refine (holds11 a4 n4 c4 O4 _ (h4.below hb7) (by omega)).mono ?_
                          rintro e w6 ⟨rfl, hb8⟩
                          rw [ok4]
                          go_wp2
                          go_meet
                          case rel => exact ⟨_, rfl, by show _ = _; rw [HCR.out, ok4]; rfl, hb7.trans (hb8.mono hb7.size)⟩
                        | true =>
                          have hb9 : ∀ w6, Below wc.heap.size wc w6 → Below w.heap.size w w6 := fun w6 h => hb7.trans (h.mono hb7.size)
                          cases ok5 : okTo O5 n5 with
                          | false =>
                            go_wp2_with fail
                            refine (holds11 a4 n4 c4 O4 _ (h4.below hb7) (by omega)).mono ?_
                            rintro e w6 ⟨rfl, hb8⟩
                            rw [ok4]
                            go_wp2_with fail
                            refine (holds11 a5 n5 c5 O5 _ (h5.below (hb9 _ hb8)) (by omega)).mono ?_
                            rintro e w7 ⟨rfl, hb10⟩
                            rw [ok5]
                            go_wp2
                            go_meet
                            case rel => exact ⟨_, rfl, by show _ = _; rw [HCR.out, ok4, ok5]; rfl, (hb9 _ hb8).trans (hb10.mono (hb9 _ hb8).size)⟩
                          | true =>
                            go_wp2_with fail
                            refine (holds11 a4 n4 c4 O4 _ (h4.below hb7) (by omega)).mono ?_
                            rintro e w6 ⟨rfl, hb8⟩
                            rw [ok4]
                            go_wp2_with fail
                            refine (holds11 a5 n5 c5 O5 _ (h5.below (hb9 _ hb8)) (by omega)).mono ?_
                            rintro e w7 ⟨rfl, hb10⟩
                            rw [ok5]
                            go_wp2
                            go_meet
                            case rel => exact ⟨_, rfl, by show _ = _; rw [HCR.out, ok4, ok5]; rfl, (hb9 _ hb8).trans (hb10.mono (hb9 _ hb8).size)⟩
                case rest =>
                  obtain ⟨x1, rfl, HX1, hb7⟩ := hcut
                  clear hb6
                  go_upto_if 250 with fail
                  go_cut [29] from 249 to 266 (fun v w' => ∃ x, v = .string x ∧ Hid (x = want2 there (crossed O4 O5 n4 n5) (okTo O4 n4 && okTo O5 n5) (badTo (toRep E) j)) ∧ Below w.heap.size w w')
                  case first =>
                    cases e1 : x1.toList.isEmpty with
                    | false =>
                      have HX : Hid (want2 there (crossed O4 O5 n4 n5) (okTo O4 n4 && okTo O5 n5) (badTo (toRep E) j) = x1) := by
                        show _ = _
                        have e := HX1.out
                        unfold want2
                        rw [← e, if_pos e1]
                      go_wp2
                      go_meet
                      case rel => exact ⟨_, rfl, HX.out.symm, hb7⟩
                    | true =>
                      have HX : Hid (want2 there (crossed O4 O5 n4 n5) (okTo O4 n4 && okTo O5 n5) (badTo (toRep E) j) = if badTo (toRep E) j then quantB else ⟨#[]⟩) := by
                        show _ = _
                        have e := HX1.out
                        unfold want2
                        rw [← e, if_neg (by simp [e1])]
                      have e2 := isEmpty_eq e1
                      clear HX1
                      subst e2
                      clear e1
                      go_wp2
                      go_loopg [29, 253] j (fun gk v i wr => ∃ q : Nat, q + gk = j ∧ i = .int .i64 q ∧ v = .string ⟨#[]⟩ ∧ Hid (badTo (toRep E) q = false) ∧ Below w.heap.size w wr)
                      case atStart => exact ⟨0, by omega, rfl, rfl, rfl, hb7⟩
                      case round =>
                        clear hb7
                        obtain ⟨q, hq, rfl, rfl, HB, hbel⟩ := hrel
                        by_cases hlt2 : q < j
                        · obtain ⟨b, off, rfl, _, hc⟩ := (h7.below hbel).1 (by omega)
                          obtain ⟨g0, g1, g2, g3, g4, g5, g6, g7⟩ := hc q hlt2
                          obtain ⟨⟨f1, f2⟩, ⟨f3, f4⟩, ⟨f5, f6⟩, f7, f8⟩ := h7.2 q hlt2
                          clear hc
                          by_cases hz : (E q).kind % 4 = 0
                          · cases hkk : keepsB ((E q).status % 8) (E q).qty (E q).ex (E q).pr (E q).re with
                            | false =>
                              have HK : Hid (badTo (toRep E) j = true) := badTo_mono (k := q + 1) (by omega) (by simp [badTo, badRep, toRep, hz, hkk])
                              go_wp2_with (go_at_call 12; refine (keeps12 _ _ _ _ _ _ _ _ _ f7 f8).mono ?_)
                              rintro e w6 ⟨rfl, hb8⟩
                              rw [hkk]
                              have hb9 : Below w.heap.size w w6 := (hbel.alloc hbel.size _).trans (hb8.mono (by have := hbel.size; simp; omega))
                              go_wp2
                              go_meet
                              case rel => exact ⟨_, rfl, by rw [HX.out, HK.out]; rfl, hb9⟩
                            | true =>
                              have HK : Hid (badTo (toRep E) (q + 1) = false) := by have := HB.out; show _ = _; simp [badTo, badRep, toRep, hkk, this]
                              go_wp2_with (go_at_call 12; refine (keeps12 _ _ _ _ _ _ _ _ _ f7 f8).mono ?_)
                              rintro e w6 ⟨rfl, hb8⟩
                              rw [hkk]
                              have hb9 : Below w.heap.size w w6 := (hbel.alloc hbel.size _).trans (hb8.mono (by have := hbel.size; simp; omega))
                              go_wp2
                              go_roundg (gk - 1)
                              case rel => exact ⟨q + 1, by omega, by go_num, rfl, HK, hb9⟩
                              case measure => omega
                          · have HK : Hid (badTo (toRep E) (q + 1) = false) := by have := HB.out; show _ = _; simp [badTo, badRep, toRep, hz, this]
                            go_wp2
                            go_roundg (gk - 1)
                            case rel => exact ⟨q + 1, by omega, by go_num, rfl, HK, hbel.alloc hbel.size _⟩
                            case measure => omega
                        · obtain rfl : q = j := by omega
                          go_wp2
                          go_meet
                          case rel => exact ⟨_, rfl, by rw [HX.out, HB.out]; rfl, hbel⟩
                  case rest =>
                    obtain ⟨x2, rfl, HX2, hb8⟩ := hcut
                    clear hb7 HX1
                    go_upto_if 269 with fail
                    go_cut [38] from 268 to 270 (fun v w' => v = .int .u8 (modeOf (m0 % 7) (d0 % 6)) ∧ w' = wc)
                    case first =>
                      by_cases hm : m0 % 7 = 0
                      · have HM : Hid (modeOf (m0 % 7) (d0 % 6) = d0 % 6) := if_pos hm
                        have hmb : (m0 % 7 == 0) = true := by rw [hm]; rfl
                        clear hm
                        go_wp2
                        go_meet
                        case rel => exact ⟨by rw [HM.out], rfl⟩
                      · have HM : Hid (modeOf (m0 % 7) (d0 % 6) = m0 % 7) := if_neg hm
                        have hmb : (m0 % 7 == 0) = false := beq_eq_false_iff_ne.2 hm
                        clear hm
                        go_wp2
                        go_meet
                        case rel => exact ⟨by rw [HM.out], rfl⟩
                    case rest =>
                      obtain ⟨rfl, rfl⟩ := hcut
                      generalize modeOf (m0 % 7) (d0 % 6) = mode at *
                      have HSE : Hid (∀ q, selfTo (fun s => grpTo g s k) E (q + 1) = (selfTo (fun s => grpTo g s k) E q || ((E q).kind % 4 == 1 && sameB (fun s => grpTo g s k) (acctB (E q).maker) (acctB (E q).taker)))) := fun q => rfl
                      have HX3 : Hid (gs = if x2.toList.isEmpty && there && !decide (mode = 1) && selfTo (fun s => grpTo g s k) E j then selfB else x2) := by
                        show _ = _
                        have e := HGS.out
                        have e2 := HX2.out
                        unfold want3 at e
                        rw [← e2] at e
                        exact e
                      clear HGS HX2
                      go_upto_region 63 with fail
                      go_cut [279] from 271 to 278 (fun v w' => v = .bool (x2.toList.isEmpty && there && !decide (mode = 1)) ∧ w' = wc)
                      case first =>
                        cases e1 : x2.toList.isEmpty with
                        | false =>
                          go_wp2
                          go_meet
                          case rel => exact ⟨by rw [e1]; simp, rfl⟩
                        | true =>
                          cases there with
                          | false =>
                            go_wp2
                            go_meet
                            case rel => exact ⟨by rw [e1]; simp, rfl⟩
                          | true =>
                            by_cases hm : mode = 1
                            · subst hm
                              go_wp2
                              go_meet
                              case rel => exact ⟨by rw [e1]; simp, rfl⟩
                            · have hmb : (mode == 1) = false := beq_eq_false_iff_ne.2 hm
                              go_wp2
                              go_meet
                              case rel => exact ⟨by rw [e1]; simp [hm], rfl⟩
                      case rest =>
                        obtain ⟨rfl, rfl⟩ := hcut
                        generalize (x2.toList.isEmpty && there && !decide (mode = 1)) = doIt at *
                        go_upto_if 279 with fail
                        go_cut [29] from 271 to 318 (fun v w' => v = .string gs ∧ Below w.heap.size w w')
                        case first =>
                          cases doIt with
                          | false =>
                            have HX : Hid (gs = x2) := by have := HX3.out; show _ = _; simpa using this
                            go_wp2
                            go_meet
                            case rel => exact ⟨by rw [HX.out], hb8⟩
                          | true =>
                            have HX : Hid (gs = if selfTo (fun s => grpTo g s k) E j then selfB else x2) := by have := HX3.out; show _ = _; simpa using this
                            clear HX3
                            go_wp2
                            go_loopg [29, 282] j (fun gk v i wr => ∃ q : Nat, q + gk = j ∧ i = .int .i64 q ∧ v = .string x2 ∧ Hid (selfTo (fun s => grpTo g s k) E q = false) ∧ Below w.heap.size w wr)
                            case atStart => exact ⟨0, by omega, rfl, rfl, rfl, hb8⟩
                            case round =>
                              clear hb8
                              obtain ⟨q, hq, rfl, rfl, HB, hbel⟩ := hrel
                              by_cases hlt2 : q < j
                              · obtain ⟨b, off, rfl, _, hc⟩ := (h7.below hbel).1 (by omega)
                                obtain ⟨g0, g1, g2, g3, g4, g5, g6, g7⟩ := hc q hlt2
                                obtain ⟨⟨f1, f2⟩, ⟨f3, f4⟩, ⟨f5, f6⟩, f7, f8⟩ := h7.2 q hlt2
                                clear hc
                                by_cases hz : (E q).kind % 4 = 1
                                · have hzb : ((E q).kind % 4 != 1) = false := by simp [hz]
                                  have HSQ : Hid (selfTo (fun s => grpTo g s k) E (q + 1) = sameB (fun s => grpTo g s k) (acctB (E q).maker) (acctB (E q).taker)) := by
                                    show _ = _
                                    rw [HSE.out q, HB.out]
                                    simp [hz]
                                  have HYES : Hid (sameB (fun s => grpTo g s k) (acctB (E q).maker) (acctB (E q).taker) = true → selfTo (fun s => grpTo g s k) E j = true) := fun h => selfTo_mono (k := q + 1) (by omega) (HSQ.out.trans h)
                                  go_wp2_with fail
                                  refine (acct7 _ _ f3 f4).mono ?_
                                  rintro e w6 ⟨rfl, rfl⟩
                                  go_wp2_with fail
                                  refine (acct7 _ _ f5 f6).mono ?_
                                  rintro e w6 ⟨rfl, rfl⟩
                                  obtain ⟨am, ham⟩ : ∃ am, Hid (am = acctB (E q).maker) := ⟨_, rfl⟩
                                  rw [show acctB (E q).maker = am from ham.out.symm]
                                  obtain ⟨at', hat'⟩ : ∃ at', Hid (at' = acctB (E q).taker) := ⟨_, rfl⟩
                                  rw [show acctB (E q).taker = at' from hat'.out.symm]
                                  have hba : Below w.heap.size w (wr.alloc (.cells #[.int .u8 (E q).kind, .int .u8 (E q).maker, .int .u8 (E q).taker, .int .u8 (E q).status, .int .i64 (E q).qty, .int .i64 (E q).ex, .int .i64 (E q).pr, .int .i64 (E q).re] 50)) := hbel.alloc hbel.size _
                                  go_wp2_with fail
                                  refine (groupof13 a6 k c6 am g _ (h6.below hba) (by omega)).mono ?_
                                  rintro e w6 ⟨rfl, hb9⟩
                                  have hbb : Below w.heap.size w w6 := hba.trans (hb9.mono hba.size)
                                  go_wp2_with fail
                                  refine (groupof13 a6 k c6 at' g _ (h6.below hbb) (by omega)).mono ?_
                                  rintro e w7 ⟨rfl, hb10⟩
                                  have hbc : Below w.heap.size w w7 := hbb.trans (hb10.mono hbb.size)
                                  clear hba hb9 hbb hb10
                                  obtain ⟨gm, hgm⟩ : ∃ gm, Hid (gm = grpTo g am k) := ⟨_, rfl⟩
                                  rw [show grpTo g am k = gm from hgm.out.symm]
                                  obtain ⟨gt, hgt⟩ : ∃ gt, Hid (gt = grpTo g at' k) := ⟨_, rfl⟩
                                  rw [show grpTo g at' k = gt from hgt.out.symm]
                                  have HSM : Hid (sameB (fun s => grpTo g s k) (acctB (E q).maker) (acctB (E q).taker) = ((!am.toList.isEmpty && (am.toList == at'.toList)) || (!gm.toList.isEmpty && (gm.toList == gt.toList)))) := by
                                    show _ = _
                                    rw [hgm.out, hgt.out, ham.out, hat'.out]
                                    rfl
                                  clear ham hat' hgm hgt g0 g1 g2 g3 g4 g5 g6 g7
                                  cases b1 : am.toList.isEmpty with
                                  | true =>
                                    cases b3 : gm.toList.isEmpty with
                                    | true =>
                                      have HT : Hid (selfTo (fun s => grpTo g s k) E (q + 1) = false) := by show _ = _; rw [HSQ.out, HSM.out]; simp only [b1, b3, Bool.not_true, Bool.false_and, Bool.or_false]; try rfl
                                      go_wp2
                                      go_roundg (gk - 1)
                                      case rel => exact ⟨q + 1, by omega, by go_num, rfl, HT, hbc⟩
                                      case measure => omega
                                    | false =>
                                      cases b4 : (gm.toList == gt.toList) with
                                      | true =>
                                        have HT : Hid (selfTo (fun s => grpTo g s k) E j = true) := HYES.out (by rw [HSM.out]; simp only [b1, b3, b4]; rfl)
                                        go_wp2
                                        go_meet
                                        case rel => exact ⟨by rw [HX.out, HT.out]; rfl, hbc⟩
                                      | false =>
                                        have HT : Hid (selfTo (fun s => grpTo g s k) E (q + 1) = false) := by show _ = _; rw [HSQ.out, HSM.out]; simp only [b1, b3, b4]; rfl
                                        go_wp2
                                        go_roundg (gk - 1)
                                        case rel => exact ⟨q + 1, by omega, by go_num, rfl, HT, hbc⟩
                                        case measure => omega
                                  | false =>
                                    cases b2 : (am.toList == at'.toList) with
                                    | true =>
                                      have HT : Hid (selfTo (fun s => grpTo g s k) E j = true) := HYES.out (by rw [HSM.out]; simp only [b1, b2]; rfl)
                                      go_wp2
                                      go_meet
                                      case rel => exact ⟨by rw [HX.out, HT.out]; rfl, hbc⟩
                                    | false =>
                                      cases b3 : gm.toList.isEmpty with
                                      | true =>
                                        have HT : Hid (selfTo (fun s => grpTo g s k) E (q + 1) = false) := by show _ = _; rw [HSQ.out, HSM.out]; simp only [b1, b2, b3, Bool.not_true, Bool.false_and, Bool.or_false]; try rfl
                                        go_wp2
                                        go_roundg (gk - 1)
                                        case rel => exact ⟨q + 1, by omega, by go_num, rfl, HT, hbc⟩
                                        case measure => omega
                                      | false =>
                                        cases b4 : (gm.toList == gt.toList) with
                                        | true =>
                                          have HT : Hid (selfTo (fun s => grpTo g s k) E j = true) := HYES.out (by rw [HSM.out]; simp only [b1, b2, b3, b4]; rfl)
                                          go_wp2
                                          go_meet
                                          case rel => exact ⟨by rw [HX.out, HT.out]; rfl, hbc⟩
                                        | false =>
                                          have HT : Hid (selfTo (fun s => grpTo g s k) E (q + 1) = false) := by show _ = _; rw [HSQ.out, HSM.out]; simp only [b1, b2, b3, b4]; rfl
                                          go_wp2
                                          go_roundg (gk - 1)
                                          case rel => exact ⟨q + 1, by omega, by go_num, rfl, HT, hbc⟩
                                          case measure => omega
                                · have hzb : ((E q).kind % 4 != 1) = true := by simp [hz]
                                  have HK : Hid (selfTo (fun s => grpTo g s k) E (q + 1) = false) := by
                                    show _ = _
                                    rw [HSE.out q, HB.out]
                                    simp [hz]
                                  go_wp2
                                  go_roundg (gk - 1)
                                  case rel => exact ⟨q + 1, by omega, by go_num, rfl, HK, hbel.alloc hbel.size _⟩
                                  case measure => omega
                              · obtain rfl : q = j := by omega
                                go_wp2
                                go_meet
                                case rel => exact ⟨by rw [HX.out, HB.out]; rfl, hbel⟩
                        case rest =>
                          obtain ⟨rfl, hb9⟩ := hcut
                          have hjj : ((j : Int) != (j : Int)) = false := by simp
                          go_wp2
                          go_ret
                          exact ⟨by simp, hb9⟩

end Go.Proofs.Ybulkcinc
