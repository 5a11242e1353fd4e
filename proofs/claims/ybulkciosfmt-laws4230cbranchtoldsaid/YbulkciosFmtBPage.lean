/-
  'zzs4230cbranchpage' (10).
-/
import Derived.Test.YbulkciosFmtEncB
namespace Go.Proofs.YbulkciosFmt
open Go.RowKit

set_option maxRecDepth 100000 in
set_option maxHeartbeats 1000000 in
theorem branchpage10 (w : World) (so : Option Addr) (sb kb : Nat) (N c d : Nat) (S : Nat → List Int) (E : Nat → Int) (hN : N ≤ 1024)
    (hso : 0 < N → so = some ⟨sb, 0, none⟩) (hk : Bufs w sb N S) (hE : ∀ j, j ≤ N → U64 (E j) ∧ w.cell? ⟨kb, j, none⟩ = some (.int .u64 (E j))) (hs : bsz S N ≤ 4092) :
    Calls Ybaf.prog 10 #[.slice so N c, .slice (some ⟨kb, 0, none⟩) (N + 1) d] w fun e w' => e = .returned (.slice (some ⟨w.heap.size, 0, none⟩) 4092 4092) ∧ PRow w' w.heap.size (bbytes S E N N) ∧ Below w.heap.size w w' := by
  obtain ⟨g, HG⟩ : ∃ g, Hid (g = w.heap.size) := ⟨_, rfl⟩
  have HE := Hid.mk' hE
  clear hE
  have hlt : w.heap.size ≤ g := by rw [HG.out]; exact Nat.le_refl _
  have hbel : ∀ w', Below g w w' → Below w.heap.size w w' := fun w' h => h.mono hlt
  have hN1 : 0 < N + 1 := by omega
  generalize hM : N + 1 = M at hN1 ⊢
  have HM := Hid.mk' hM
  clear hM
  go_enter Ybaf.func10, Ybaf.ntmps10
  go_wp2_with (at_make; refine wpList_make_page rfl _ _ rfl 4092 (by omega) rfl rfl ?_)
  intro w1 hp1 hg1
  have bel1 : Below w.heap.size w w1 := (Below.refl _ _).grown hg1 (Nat.le_refl _) (fun k hk => nomatch hk)
  clear hg1
  rw [← HG.out] at hp1 bel1 ⊢
  go_wp2_with (refine wpList_store_page_end rfl (.tmp 12) (.const (.int .u8 2)) rfl rfl g 0 2 rfl rfl _ hp1 (by omega) rfl ?_)
  intro w2 hp2 hg2
  have bel2 : Below g w w2 := bel1.grown hg2 (by rw [HG.out]; exact bel1.size) (fun k hk => by cases hk; exact Nat.le_refl _)
  have hp3 := hp2.zero (by simp)
  clear hg2 hp2 bel1
  go_wp2_with (refine wpList_store_page_end rfl (.tmp 18) (.tmp 17) rfl rfl g 2 ((N : Int) % 256) rfl rfl _ hp3 (by omega) rfl ?_)
  intro w3 hp4 hg3
  have bel3 : Below g w w3 := bel2.grown hg3 (by rw [HG.out]; exact bel2.size) (fun k hk => by cases hk; exact Nat.le_refl _)
  clear hg3 hp3 bel2
  go_wp2_with (refine wpList_store_page_end rfl (.tmp 23) (.tmp 22) rfl rfl g 3 ((N : Int) / 256) rfl rfl _ hp4 (by omega) rfl ?_)
  intro w4 hp5 hg4
  have bel4 : Below g w w4 := bel3.grown hg4 (by rw [HG.out]; exact bel3.size) (fun k hk => by cases hk; exact Nat.le_refl _)
  clear hg4 hp4 bel3
  have HP5 : Hid (PRow w4 g [2, 0, (N : Int) % 256, (N : Int) / 256]) := hp5
  clear hp5
  obtain ⟨⟨u1, u2⟩, ce0⟩ := HE.out 0 (by omega)
  have c0 := cell_stays bel4 ce0 hlt
  obtain ⟨x0, HX0⟩ : ∃ x0 : Nat, Hid ((x0 : Int) = E 0) := ⟨(E 0).toNat, by show _ = _; omega⟩
  rw [← HX0.out] at c0
  clear ce0 u1 u2
  go_wp2_with fail
  refine (put16 w4 g [2, 0, (N : Int) % 256, (N : Int) / 256] 4 x0 rfl HP5.out (by omega)).mono ?_
  rintro e w5 ⟨rfl, hp6, hg5⟩
  have bel5 : Below g w w5 := bel4.grown hg5 (by rw [HG.out]; exact bel4.size) (fun k hk => by cases hk; exact Nat.le_refl _)
  have HP6 : Hid (PRow w5 g (bbytes S E N 0)) := by
    unfold bbytes
    rw [← HX0.out]
    exact hp6
  clear hg5 hp6 c0 bel4
  go_wp2
  go_loopg [7, 8] N (fun gk t7 t8 wr => ∃ k : Nat, k + gk = N ∧ t8 = .int .i64 k ∧ t7 = .int .i64 (bsz S k) ∧ PRow wr g (bbytes S E N k) ∧ Below g w wr)
  case atStart => exact ⟨0, by omega, rfl, rfl, HP6.out, bel5⟩
  case round =>
    clear HP6 HP5 bel5
    obtain ⟨k, hkn, rfl, rfl, hp, bel⟩ := hrel
    by_cases hlt' : k < N
    · have hso' := hso (by omega)
      subst hso'
      obtain ⟨p, cp, e1, H1'⟩ := hk.at_ (hbel _ bel) hlt'
      have H1 := Hid.mk' H1'
      clear H1'
      have hle : bsz S (k + 1) ≤ 4092 := Nat.le_trans (bsz_mono S (k + 1) N hlt') hs
      have HA := bbytes_length S E N k
      have HS : Hid (bsz S (k + 1) = bsz S k + (10 + (S k).length)) := rfl
      have HP : Hid (PRow wr g (bbytes S E N k)) := hp
      have HL : Hid (bbytes S E N (k + 1) = bbytes S E N k ++ sepBytes (S k) (E (k + 1))) := rfl
      have hle2 : bsz S k + (10 + (S k).length) ≤ 4092 := hle
      generalize hA : bsz S k = A at *
      generalize hX : bbytes S E N k = X at *
      have HX : Hid (A = X.length) := HA.symm
      obtain ⟨x, HKx⟩ : ∃ x, Hid (x = (S k).length) := ⟨_, rfl⟩
      rw [← HKx.out] at hle2 e1
      obtain ⟨⟨u1, u2⟩, ce0⟩ := HE.out (k + 1) (by omega)
      obtain ⟨x1, HX1⟩ : ∃ x1 : Nat, Hid ((x1 : Int) = E (k + 1)) := ⟨(E (k + 1)).toNat, by show _ = _; omega⟩
      have HCE : Hid (w.cell? ⟨kb, k + 1, none⟩ = some (.int .u64 x1)) := by rw [HX1.out]; exact ce0
      have hkM : k + 1 < M := by have := HM.out; omega
      clear hA hX hp HA hle ce0 u1 u2
      go_wp2_with (refine wpList_store_page_end rfl (.tmp 47) (.tmp 46) rfl rfl g A ((x : Int) % 256) rfl rfl X HP.out (by omega) HX.out ?_)
      intro w6 hp6 hg6
      have bel6 : Below g w w6 := bel.grown hg6 (by rw [HG.out]; exact bel.size) (fun k hk => by cases hk; exact Nat.le_refl _)
      have HP6 := Hid.mk' hp6
      clear hg6 hp6
      go_wp2_with (refine wpList_store_page_end rfl (.tmp 55) (.tmp 54) rfl rfl g (A + 1) ((x : Int) / 256) rfl rfl _ HP6.out (by omega) ?c2 ?_)
      case c2 => rw [HX.out]; simp
      intro w7 hp7 hg7
      have bel7 : Below g w w7 := bel6.grown hg7 (by rw [HG.out]; exact bel6.size) (fun k hk => by cases hk; exact Nat.le_refl _)
      have HP7 := Hid.mk' hp7
      clear hg7 hp7
      go_wp2_with (refine wpList_copy_page rfl (.tmp 61) (.tmp 62) rfl g _ (A + 2) ?d0 HP7.out _ _ _ rfl ?d1 ?d2 ⟨p, 0, none⟩ (S k) x cp HKx.out rfl (H1.out _ (hbel _ bel7)).2 (by omega) g w bel7 (Nat.le_refl _) ?_)
      case d0 => rw [HX.out]; simp
      case d1 => rfl
      intro w8 hp8 bel8
      have HP8 := Hid.mk' hp8
      have ce := cell_stays bel8 HCE.out hlt
      clear hp8
      go_wp2_with fail
      refine (put16 w8 g _ (A + 2 + x) x1 ?e1 HP8.out (by omega)).mono ?_
      case e1 => rw [HX.out, HKx.out]; simp; omega
      rintro e w9 ⟨rfl, hp9, hg9⟩
      have bel9 : Below g w w9 := bel8.grown hg9 (by rw [HG.out]; exact bel8.size) (fun k hk => by cases hk; exact Nat.le_refl _)
      have HP9 : Hid (PRow w9 g (bbytes S E N (k + 1))) := by
        rw [HL.out]
        unfold sepBytes
        rw [← HKx.out, ← HX1.out]
        simpa [Hid, List.append_assoc] using hp9
      have HE2 : Hid (A + 2 + x + 8 = bsz S (k + 1)) := by rw [HS.out, ← HKx.out]; show _ = _; omega
      clear hg9 hp9 ce
      go_wp2
      go_roundg (gk - 1)
      case rel => exact ⟨k + 1, by omega, by go_num, by rw [← HE2.out]; go_num, HP9.out, bel9⟩
      case measure => omega
    · obtain rfl : k = N := by omega
      go_wp2
      go_ret
      rw [← HG.out]
      exact ⟨rfl, hp, bel⟩
end Go.Proofs.YbulkciosFmt
