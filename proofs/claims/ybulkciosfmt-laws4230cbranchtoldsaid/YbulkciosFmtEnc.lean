/-
  'encode' (14) of a leaf.
-/
import Derived.Test.YbulkciosFmtBin
namespace Go.Proofs.YbulkciosFmt
open Go.RowKit

/-- One pair, encoded. -/
def pairBytes (k v : List Int) : List Int := [((k.length : Nat) : Int) % 256, ((k.length : Nat) : Int) / 256] ++ [((v.length : Nat) : Int) % 256, ((v.length : Nat) : Int) / 256] ++ k ++ v

/-- The page's bytes behind k of the N pairs. -/
def lbytes (K V : Nat → List Int) (N : Nat) : Nat → List Int
  | 0 => [1, 0, (N : Int) % 256, (N : Int) / 256]
  | k + 1 => lbytes K V N k ++ pairBytes (K k) (V k)

theorem lbytes_length (K V : Nat → List Int) (N k : Nat) : (lbytes K V N k).length = lsz K V k := by
  induction k with
  | zero => rfl
  | succ k ih => simp [lbytes, lsz, pairBytes, ih]; omega

theorem Bufs.at_ {w w' : World} {B n : Nat} {K : Nat → List Int} (h : Bufs w B n K) (hb : Below w.heap.size w w') {j : Nat} (hj : j < n) :
    ∃ p c, w'.cell? ⟨B, j, none⟩ = some (.slice (some ⟨p, 0, none⟩) (K j).length c) ∧ ∀ w'', Below w.heap.size w w'' → w''.cell? ⟨B, j, none⟩ = some (.slice (some ⟨p, 0, none⟩) (K j).length c) ∧ ∀ i y, (K j)[i]? = some y → w''.cell? ((⟨p, 0, none⟩ : Addr).add i) = some (.int .u8 y) := by
  obtain ⟨p, c, h1, h2⟩ := h j hj
  refine ⟨p, c, cell_stays hb h1 (Nat.le_refl _), fun w'' hb' => ⟨cell_stays hb' h1 (Nat.le_refl _), fun i y hy => ?_⟩⟩
  have e : (⟨p, 0, none⟩ : Addr).add i = ⟨p, i, none⟩ := by unfold Addr.add; split <;> simp_all
  rw [e]
  exact cell_stays hb' (h2 i y hy) (Nat.le_refl _)

theorem wrap16 (n : Nat) (h : n < 65536) : IntKind.u16.wrap (n : Int) = n := by
  simp [IntKind.wrap, IntKind.signed, IntKind.bits]; omega

theorem PRow.drew {w : World} {g : Nat} {xs : List Int} (h : PRow w g xs) : PRow w.drew g xs := ⟨h.row, h.len⟩
theorem PRow.drewN {w : World} {g : Nat} {xs : List Int} (h : PRow w g xs) (m : Nat) : PRow (w.drewN m) g xs := ⟨h.row, h.len⟩

set_option maxRecDepth 100000 in
set_option maxHeartbeats 400000 in
theorem encode14 (w : World) (bn : Nat) (kb vb : Nat) (n c d : Nat) (K V : Nat → List Int) (h : Own w bn true (.slice (some ⟨kb, 0, none⟩) n c) (.slice (some ⟨vb, 0, none⟩) n d)) (hn : n ≤ 1024)
    (hk : Bufs w kb n K) (hv : Bufs w vb n V) (hs : lsz K V n ≤ 4092) :
    Calls Ybaf.prog 14 #[.pointer (some ⟨bn, 0, none⟩)] w fun e w' => e = .returned (.slice (some ⟨w.heap.size, 0, none⟩) 4092 4092) ∧ PRow w' w.heap.size (lbytes K V n n) ∧ Below w.heap.size w w' := by
  obtain ⟨h2, h3, h5, h6⟩ := h
  obtain ⟨g, HG⟩ : ∃ g, Hid (g = w.heap.size) := ⟨_, rfl⟩
  go_enter Ybaf.func14, Ybaf.ntmps14
  go_wp2_with (at_make; refine wpList_make_page rfl _ _ rfl 4 (by omega) rfl rfl ?_)
  intro w1 hp1 hg1
  have bel1 : Below w.heap.size w w1 := (Below.refl _ _).grown hg1 (Nat.le_refl _) (fun k hk => nomatch hk)
  clear hg1
  rw [← HG.out] at hp1 bel1 ⊢
  have hp2 : PRow w1 g [0, 0, 0, 0] := (((hp1.zero (by simp)).zero (by simp)).zero (by simp)).zero (by simp)
  clear hp1
  go_wp2_with (refine wpList_store_page_in rfl (.tmp 10) (.const (.int .u8 2)) rfl rfl g 0 2 rfl rfl _ hp2 (by simp) ?_)
  intro w2 hp3 hg2
  have bel2 : Below g w w2 := bel1.grown hg2 (by rw [HG.out]; exact bel1.size) (fun k hk => by cases hk; exact Nat.le_refl _)
  have hlt : w.heap.size ≤ g := by rw [HG.out]; exact Nat.le_refl _
  have n2 := cell_stays bel2 h2 hlt
  clear hg2 hp2 bel1
  go_wp2_with (refine wpList_store_page_in rfl (.tmp 16) (.const (.int .u8 1)) rfl rfl g 0 1 rfl rfl _ hp3 (by simp) ?_)
  intro w3 hp4 hg3
  have bel3 : Below g w w3 := bel2.grown hg3 (by rw [HG.out]; exact bel2.size) (fun k hk => by cases hk; exact Nat.le_refl _)
  have n5 := cell_stays bel3 h5 hlt
  clear hg3 hp3 bel2 n2
  have hp5 : PRow w3 g [1, 0, 0, 0] := hp4
  clear hp4
  go_wp2_with fail
  have e16 := wrap16 n (by omega)
  have hbn : bn < g := by rw [HG.out]; exact World.block_lt_of_cell? w _ h2
  go_region_held3 (fun w' => w'.cell? ⟨bn, 5, none⟩ = some (.slice (some ⟨kb, 0, none⟩) n c)) (first | exact n5 | assumption)
    (first | (go_at_call 24; refine (put24 _ g 1 0 0 0 n (by omega) hp5.drew).mono ?_; rintro e w4 ⟨rfl, hp6, hg4⟩; have m5 : w4.cell? ⟨bn, 5, none⟩ = some (.slice (some ⟨kb, 0, none⟩) n c) := hg4.cell n5 (by simp; omega)))
  have bel4 : Below g w w4 := Below.grown (Below.drew bel3) hg4 (by rw [HG.out]; exact bel3.size) (fun k hk => by cases hk; exact Nat.le_refl _)
  have m2 := cell_stays bel4 h2 hlt
  clear hg4 bel3 hp5 n5 e16
  go_wp2
  go_loopg [3, 36] n (fun gk t3 t36 wr => ∃ k : Nat, k + gk = n ∧ t36 = .int .i64 k ∧ t3 = .slice (some ⟨g, 0, none⟩) (lsz K V k) 4092 ∧ PRow wr g (lbytes K V n k) ∧ Below g w wr)
  case atStart => exact ⟨0, by omega, rfl, rfl, hp6, bel4⟩
  case round =>
    clear m2 m5 hp6 bel4
    obtain ⟨k, hkn, rfl, rfl, hp, bel⟩ := hrel
    by_cases hlt' : k < n
    · have hbel : ∀ w', Below g w w' → Below w.heap.size w w' := fun w' h => h.mono hlt
      obtain ⟨p, cp, e1, H1'⟩ := hk.at_ (hbel _ bel) hlt'
      have H1 := Hid.mk' H1'
      obtain ⟨q, cq, e2, H2'⟩ := hv.at_ (hbel _ bel) hlt'
      have H2 := Hid.mk' H2'
      clear H1' H2'
      have hle : lsz K V (k + 1) ≤ 4092 := Nat.le_trans (lsz_mono K V (k + 1) n hlt') hs
      have HA := lbytes_length K V n k
      have HS : Hid (lsz K V (k + 1) = lsz K V k + (4 + (K k).length + (V k).length)) := rfl
      have HP : Hid (PRow wr g (lbytes K V n k)) := hp
      have HL : Hid (lbytes K V n (k + 1) = lbytes K V n k ++ pairBytes (K k) (V k)) := rfl
      have hle2 : lsz K V k + (4 + (K k).length + (V k).length) ≤ 4092 := hle
      generalize hA : lsz K V k = A at *
      generalize hX : lbytes K V n k = X at *
      have HX : Hid (A = X.length) := HA.symm
      obtain ⟨x, HKx⟩ : ∃ x, Hid (x = (K k).length) := ⟨_, rfl⟩
      obtain ⟨y, HVy⟩ : ∃ y, Hid (y = (V k).length) := ⟨_, rfl⟩
      rw [← HKx.out, ← HVy.out] at hle2
      rw [← HKx.out] at e1
      rw [← HVy.out] at e2
      have n5 := cell_stays bel h5 hlt
      have n6 := cell_stays bel h6 hlt
      clear hA hX hp HA hle
      have e16 := wrap16 x (by omega)
      have f16 := wrap16 y (by omega)
      go_wp2_with fail
      refine (append25 wr g X A x HX.out (by omega) HP.out (by omega)).mono ?_
      rintro e w5 ⟨rfl, hp5, hg5⟩
      have bel5 : Below g w w5 := bel.grown hg5 (by rw [HG.out]; exact bel.size) (fun k hk => by cases hk; exact Nat.le_refl _)
      have n5 := cell_stays bel5 h5 hlt
      have n6 := cell_stays bel5 h6 hlt
      have n7 := (H2.out _ (hbel _ bel5)).1
      rw [← HVy.out] at n7
      clear hg5
      go_wp2_with fail
      go_region_held3 (fun w' => w'.cell? ⟨bn, 6, none⟩ = some (.slice (some ⟨vb, 0, none⟩) n d) ∧ w'.cell? ⟨vb, k, none⟩ = some (.slice (some ⟨q, 0, none⟩) y cq)) (first | exact ⟨n6, n7⟩ | exact ⟨by assumption, by assumption⟩)
        (first | (go_at_call 25; refine (append25 _ g (X ++ [(x : Int) % 256, (x : Int) / 256]) (A + 2) y (by rw [HX.out]; simp) (by omega) hp5.drew (by omega)).mono ?_; rintro e w6 ⟨rfl, hp6, hg6⟩; have m6 : w6.cell? ⟨bn, 6, none⟩ = some (.slice (some ⟨vb, 0, none⟩) n d) := cell_stays (Below.grown (Below.drew bel5) hg6 (by rw [HG.out]; exact bel5.size) (fun k hk => by cases hk; exact Nat.le_refl _)) h6 hlt; have m7 := (H2.out _ (hbel _ (Below.grown (Below.drew bel5) hg6 (by rw [HG.out]; exact bel5.size) (fun k hk => by cases hk; exact Nat.le_refl _)))).1; rw [← HVy.out] at m7))
      have bel6 : Below g w w6 := Below.grown (Below.drew bel5) hg6 (by rw [HG.out]; exact bel5.size) (fun k hk => by cases hk; exact Nat.le_refl _)
      have HP6 := Hid.mk' hp6
      clear hg6 hp5 hp6 n5 n6 n7
      go_wp2_with (at_builtin; refine wpList_append_page rfl _ _ rfl g _ (A + 2 + 2) ?c0 HP6.out rfl ⟨p, 0, none⟩ (K k) x cp HKx.out rfl (H1.out _ (hbel _ bel6)).2 (by omega) ?_)
      case c0 => rw [HX.out]; simp
      intro w7 hp7 hg7
      have bel7 : Below g w w7 := bel6.grown hg7 (by rw [HG.out]; exact bel6.size) (fun k hk => by cases hk; exact Nat.le_refl _)
      have n6 := cell_stays bel7 h6 hlt
      have n7 := (H2.out _ (hbel _ bel7)).1
      rw [← HVy.out] at n7
      have HP7 := Hid.mk' hp7
      clear hg7 hp7 m6 m7
      go_wp2_with (at_builtin; refine wpList_append_page rfl _ _ rfl g _ (A + 2 + 2 + x) ?c0 HP7.out rfl ⟨q, 0, none⟩ (V k) y cq HVy.out rfl (H2.out _ (hbel _ bel7)).2 (by omega) ?_)
      case c0 => rw [HX.out, HKx.out]; simp; omega
      intro w8 hp8 hg8
      have bel8 : Below g w w8 := bel7.grown hg8 (by rw [HG.out]; exact bel7.size) (fun k hk => by cases hk; exact Nat.le_refl _)
      have HP8 : Hid (PRow w8 g (lbytes K V n (k + 1))) := by
        rw [HL.out]
        unfold pairBytes
        rw [← HKx.out, ← HVy.out]
        simpa [Hid, List.append_assoc] using hp8
      have HE : Hid (A + 2 + 2 + x + y = lsz K V (k + 1)) := by rw [HS.out, ← HKx.out, ← HVy.out]; show _ = _; omega
      clear hg8 hp8 n6 n7
      go_wp2
      go_roundg (gk - 1)
      case rel => exact ⟨k + 1, by omega, by go_num, by rw [HE.out], HP8.out, bel8⟩
      case measure => omega
    · obtain rfl : k = n := by omega
      go_wp2
      go_ret
      rw [← HG.out]
      exact ⟨rfl, hp, bel⟩
end Go.Proofs.YbulkciosFmt
