/-
  'encode' (14) of a branch.
-/
import Derived.Test.YbulkciosFmtBin64
namespace Go.Proofs.YbulkciosFmt
open Go.RowKit

/-- The encoded size of a branch of k separators. -/
def bsz (S : Nat → List Int) : Nat → Nat
  | 0 => 12
  | k + 1 => bsz S k + (10 + (S k).length)

theorem wrapI (x : Int) (h1 : -9223372036854775808 ≤ x) (h2 : x ≤ 9223372036854775807) : IntKind.i64.wrap x = x := by rw [IntKind.wrap_i64]; omega

theorem bsz_mono (S : Nat → List Int) (m n : Nat) (h : m ≤ n) : bsz S m ≤ bsz S n := by
  induction n with
  | zero => obtain rfl : m = 0 := by omega
            exact Nat.le_refl _
  | succ n ih =>
    rcases Nat.lt_or_ge m (n + 1) with h1 | h1
    · have := ih (by omega)
      simp only [bsz]
      omega
    · obtain rfl : m = n + 1 := by omega
      exact Nat.le_refl _

theorem bsz_le (S : Nat → List Int) (n : Nat) (hS : ∀ j, j < n → (S j).length ≤ 140737488355328) : bsz S n ≤ 12 + n * 140737488355338 := by
  induction n with
  | zero => simp [bsz]
  | succ n ih =>
    have h1 := ih (fun j hj => hS j (by omega))
    have h2 := hS n (by omega)
    simp only [bsz]
    omega

/-- One separator and the child behind it, encoded. -/
def sepBytes (s : List Int) (e : Int) : List Int := [((s.length : Nat) : Int) % 256, ((s.length : Nat) : Int) / 256] ++ s ++ eight e.toNat 8

/-- The page's bytes behind k of the N separators. -/
def bbytes (S : Nat → List Int) (E : Nat → Int) (N : Nat) : Nat → List Int
  | 0 => [2, 0, (N : Int) % 256, (N : Int) / 256] ++ eight (E 0).toNat 8
  | k + 1 => bbytes S E N k ++ sepBytes (S k) (E (k + 1))

theorem bbytes_length (S : Nat → List Int) (E : Nat → Int) (N k : Nat) : (bbytes S E N k).length = bsz S k := by
  induction k with
  | zero => simp [bbytes, bsz, eight_length]
  | succ k ih => simp [bbytes, bsz, sepBytes, ih, eight_length]; omega

/-- Numbers of pages. -/
def U64 (x : Int) : Prop := 0 ≤ x ∧ x < 18446744073709551616

set_option maxRecDepth 100000 in
set_option maxHeartbeats 1000000 in
theorem encode14b (w : World) (bn : Nat) (so : Option Addr) (sb kb : Nat) (N c d : Nat) (S : Nat → List Int) (E : Nat → Int) (vs : Value) (h : Own w bn false (.slice so N c) vs) (h7 : w.cell? ⟨bn, 7, none⟩ = some (.slice (some ⟨kb, 0, none⟩) (N + 1) d)) (hN : N ≤ 1024)
    (hso : 0 < N → so = some ⟨sb, 0, none⟩) (hk : Bufs w sb N S) (hE : ∀ j, j ≤ N → U64 (E j) ∧ w.cell? ⟨kb, j, none⟩ = some (.int .u64 (E j))) (hs : bsz S N ≤ 4092) :
    Calls Ybaf.prog 14 #[.pointer (some ⟨bn, 0, none⟩)] w fun e w' => e = .returned (.slice (some ⟨w.heap.size, 0, none⟩) 4092 4092) ∧ PRow w' w.heap.size (bbytes S E N N) ∧ Below w.heap.size w w' := by
  obtain ⟨h2, h3, h5, h6⟩ := h
  obtain ⟨g, HG⟩ : ∃ g, Hid (g = w.heap.size) := ⟨_, rfl⟩
  have HE := Hid.mk' hE
  clear hE h6 h3
  have hlt : w.heap.size ≤ g := by rw [HG.out]; exact Nat.le_refl _
  have hbn : bn < g := by rw [HG.out]; exact World.block_lt_of_cell? w _ h2
  go_enter Ybaf.func14, Ybaf.ntmps14
  go_wp2_with (at_make; refine wpList_make_page rfl _ _ rfl 4 (by omega) rfl rfl ?_)
  intro w1 hp1 hg1
  have bel1 : Below w.heap.size w w1 := (Below.refl _ _).grown hg1 (Nat.le_refl _) (fun k hk => nomatch hk)
  clear hg1
  rw [← HG.out] at hp1 bel1 ⊢
  have hp2 : PRow w1 g [0, 0, 0, 0] := (((hp1.zero (by simp)).zero (by simp)).zero (by simp)).zero (by simp)
  clear hp1
  go_wp2_with (refine wpList_store_page_in rfl (.tmp 10) (.const (.int .u8 2)) rfl rfl g 0 2 rfl rfl _ hp2 (by simp) ?_)
  intro w3 hp4 hg2
  have bel3 : Below g w w3 := bel1.grown hg2 (by rw [HG.out]; exact bel1.size) (fun k hk => by cases hk; exact Nat.le_refl _)
  have n2 := cell_stays bel3 h2 hlt
  have n5 := cell_stays bel3 h5 hlt
  clear hg2 hp2 bel1
  have hp5 : PRow w3 g [2, 0, 0, 0] := hp4
  clear hp4
  have e16 := wrap16 N (by omega)
  go_wp2_with fail
  go_region_held3 (fun w' => w'.cell? ⟨bn, 5, none⟩ = some (.slice so N c)) (first | exact n5 | assumption)
    (first | (go_at_call 24; refine (put24 _ g 2 0 0 0 N (by omega) hp5.drew).mono ?_; rintro e w4 ⟨rfl, hp6, hg4⟩; have m5 : w4.cell? ⟨bn, 5, none⟩ = some (.slice so N c) := hg4.cell n5 (by simp; omega)))
  have bel4 : Below g w w4 := Below.grown (Below.drew bel3) hg4 (by rw [HG.out]; exact bel3.size) (fun k hk => by cases hk; exact Nat.le_refl _)
  have m2 := cell_stays bel4 h2 hlt
  have m7 := cell_stays bel4 h7 hlt
  obtain ⟨⟨u1, u2⟩, ce0⟩ := HE.out 0 (by omega)
  have c0 := cell_stays bel4 ce0 hlt
  obtain ⟨x0, HX0⟩ : ∃ x0 : Nat, Hid ((x0 : Int) = E 0) := ⟨(E 0).toNat, by show _ = _; omega⟩
  rw [← HX0.out] at c0
  clear hg4 bel3 hp5 n5 e16 n2 ce0 u1
  have hx0 : x0 < 18446744073709551616 := by have := HX0.out; omega
  have hbel : ∀ w', Below g w w' → Below w.heap.size w w' := fun w' h => h.mono hlt
  have hN1 : 0 < N + 1 := by omega
  generalize hM : N + 1 = M at h7 m7 hN1
  have HM := Hid.mk' hM
  clear hM
  have HPS := Hid.mk' hp6
  clear hp6
  go_wp2_with fail
  go_region_held3 (fun w' => w'.cell? ⟨bn, 7, none⟩ = some (.slice (some ⟨kb, 0, none⟩) M d) ∧ w'.cell? ⟨kb, 0, none⟩ = some (.int .u64 x0)) (first | exact ⟨m7, c0⟩ | exact ⟨by assumption, by assumption⟩)
    (first | (go_at_call 26; refine (append26 _ g [2, 0, (N : Int) % 256, (N : Int) / 256] 4 x0 rfl hx0 HPS.out.drew (by omega)).mono ?_; rintro e w5 ⟨rfl, hp7, hg5⟩; have bel5 : Below g w w5 := (Below.grown (Below.drew bel4) hg5 (by rw [HG.out]; exact bel4.size) (fun k hk => by cases hk; exact Nat.le_refl _)); have l7 := cell_stays bel5 h7 hlt; have l0 : w5.cell? ⟨kb, 0, none⟩ = some (.int .u64 x0) := by rw [HX0.out]; exact cell_stays bel5 (HE.out 0 (by omega)).2 hlt))
  have HP7 : Hid (PRow w5 g (bbytes S E N 0)) := by
    unfold bbytes
    rw [← HX0.out]
    exact hp7
  have l5 := cell_stays bel5 h5 hlt
  clear hg5 hp7 m2 m5 m7 c0 l0
  go_wp2
  go_loopg [3, 86] N (fun gk t3 t86 wr => ∃ k : Nat, k + gk = N ∧ t86 = .int .i64 k ∧ t3 = .slice (some ⟨g, 0, none⟩) (bsz S k) 4092 ∧ PRow wr g (bbytes S E N k) ∧ Below g w wr)
  case atStart => exact ⟨0, by omega, rfl, rfl, HP7.out, bel5⟩
  case round =>
    clear HP7 HPS bel4 bel5 l5 l7
    obtain ⟨k, hkn, rfl, rfl, hp, bel⟩ := hrel
    by_cases hlt' : k < N
    · have hso' := hso (by omega)
      subst hso'
      obtain ⟨p, cp, e1, H1'⟩ := hk.at_ (hbel _ bel) hlt'
      have H1 := Hid.mk' H1'
      clear H1'
      have hle : bsz S (k + 1) ≤ 4092 := Nat.le_trans (bsz_mono S (k + 1) N hlt') hs
      have HA := bbytes_length S E N k
      have HS : Hid (bsz S (k + 1) = bsz S k + (10 + (S k).length)) := rfl
      have HP : Hid (PRow wr g (bbytes S E N k)) := hp
      have HL : Hid (bbytes S E N (k + 1) = bbytes S E N k ++ sepBytes (S k) (E (k + 1))) := rfl
      have hle2 : bsz S k + (10 + (S k).length) ≤ 4092 := hle
      generalize hA : bsz S k = A at *
      generalize hX : bbytes S E N k = X at *
      have HX : Hid (A = X.length) := HA.symm
      obtain ⟨x, HKx⟩ : ∃ x, Hid (x = (S k).length) := ⟨_, rfl⟩
      rw [← HKx.out] at hle2 e1
      obtain ⟨⟨u1, u2⟩, ce0⟩ := HE.out (k + 1) (by omega)
      obtain ⟨x1, HX1⟩ : ∃ x1 : Nat, Hid ((x1 : Int) = E (k + 1)) := ⟨(E (k + 1)).toNat, by show _ = _; omega⟩
      have hx1 : x1 < 18446744073709551616 := by have := HX1.out; omega
      have HCE : Hid (w.cell? ⟨kb, k + 1, none⟩ = some (.int .u64 x1)) := by rw [HX1.out]; exact ce0
      have n5 := cell_stays bel h5 hlt
      have hkM : k + 1 < M := by have := HM.out; omega
      clear hA hX hp HA hle ce0 u1 u2
      have e16 := wrap16 x (by omega)
      go_wp2_with fail
      refine (append25 wr g X A x HX.out (by omega) HP.out (by omega)).mono ?_
      rintro e w6 ⟨rfl, hp6, hg6⟩
      have bel6 : Below g w w6 := bel.grown hg6 (by rw [HG.out]; exact bel.size) (fun k hk => by cases hk; exact Nat.le_refl _)
      have HP6 := Hid.mk' hp6
      clear hg6 hp6
      go_wp2_with (at_builtin; refine wpList_append_page rfl _ _ rfl g _ (A + 2) ?c0 HP6.out rfl ⟨p, 0, none⟩ (S k) x cp HKx.out rfl (H1.out _ (hbel _ bel6)).2 (by omega) ?_)
      case c0 => rw [HX.out]; simp
      intro w7 hp7 hg7
      have bel7 : Below g w w7 := bel6.grown hg7 (by rw [HG.out]; exact bel6.size) (fun k hk => by cases hk; exact Nat.le_refl _)
      have HP7 := Hid.mk' hp7
      have n7 := cell_stays bel7 h7 hlt
      have ce := cell_stays bel7 HCE.out hlt
      clear hg7 hp7
      obtain ⟨k1, HK1⟩ : ∃ k1, Hid (k1 = k + 1) := ⟨_, rfl⟩
      have hk1 : IntKind.i64.wrap ((k : Int) + 1) = (k1 : Int) := by rw [HK1.out, wrapI _ (by omega) (by omega)]; omega
      have hk1M : k1 < M := by rw [HK1.out]; exact hkM
      have hk1z : (0 : Int) ≤ (k1 : Int) := by omega
      have hk1i : (k1 : Int) < (M : Int) := by omega
      rw [← HK1.out] at ce
      go_wp2_with fail
      go_region_held3 (fun w' => w'.cell? ⟨bn, 7, none⟩ = some (.slice (some ⟨kb, 0, none⟩) M d) ∧ w'.cell? ⟨kb, k1, none⟩ = some (.int .u64 x1)) (first | exact ⟨n7, ce⟩ | exact ⟨by assumption, by assumption⟩)
        (first | (go_at_call 26; refine (append26 _ g _ (A + 2 + x) x1 ?_ hx1 HP7.out.drew (by omega)).mono ?_; (rw [HX.out, HKx.out]; simp; omega); rintro e w8 ⟨rfl, hp8, hg8⟩; have bel8 : Below g w w8 := (Below.grown (Below.drew bel7) hg8 (by rw [HG.out]; exact bel7.size) (fun k hk => by cases hk; exact Nat.le_refl _)); have l7 := cell_stays bel8 h7 hlt; have l0 : w8.cell? ⟨kb, k1, none⟩ = some (.int .u64 x1) := by rw [HK1.out]; exact cell_stays bel8 HCE.out hlt))
      have HP8 : Hid (PRow w8 g (bbytes S E N (k + 1))) := by
        rw [HL.out]
        unfold sepBytes
        rw [← HKx.out, ← HX1.out]
        simpa [Hid, List.append_assoc] using hp8
      have HE2 : Hid (A + 2 + x + 8 = bsz S (k + 1)) := by rw [HS.out, ← HKx.out]; show _ = _; omega
      clear hg8 hp8 n7 ce l7 l0 hk1 hk1M hk1z hk1i
      go_wp2
      go_roundg (gk - 1)
      case rel => exact ⟨k + 1, by omega, by go_num, by rw [HE2.out], HP8.out, bel8⟩
      case measure => omega
    · obtain rfl : k = N := by omega
      go_wp2
      go_ret
      rw [← HG.out]
      exact ⟨rfl, hp, bel⟩
end Go.Proofs.YbulkciosFmt
