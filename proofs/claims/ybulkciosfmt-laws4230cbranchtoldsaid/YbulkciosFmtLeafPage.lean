/-
  'zzs4230cleafpage' (8).
-/
import Derived.Test.YbulkciosFmtEnc
namespace Go.Proofs.YbulkciosFmt
open Go.RowKit

/-- 'copy' onto a page's known end. -/
theorem wpList_copy_page {w : World} {ops : Array Oper} {rest : List Oper} {o : Oper} {a : Act} {Q : Exit → Act → World → Prop} (hgd : o.guard = none) (d s : Operand)
    (ho : o.op = .call { callee := .builtin .copy, args := #[d, s], argTypes := #[26, 26] })
    (g : Nat) (xs : List Int) (n : Nat) (hn : n = xs.length) (hp : PRow w g xs) (dp : Option Addr) (dLen dCap : Nat) (hd : a.eval d = .slice dp dLen dCap) (hdl : dLen = 4092 - n) (hdp : n < 4092 → dp = some ⟨g, n, none⟩)
    (ad : Addr) (ys : List Int) (m c : Nat) (hm : m = ys.length) (hx : a.eval s = .slice (some ad) m c) (hnews : ∀ j y, ys[j]? = some y → w.cell? (ad.add j) = some (.int .u8 y)) (hroom : n + m ≤ 4092)
    (B : Nat) (w0 : World) (hb : Below B w0 w) (hBg : B ≤ g)
    (h : ∀ w', PRow w' g (xs ++ ys) → Below B w0 w' → wpList Ybaf.prog ops Q rest (a.put o.dst (goInt m)) w') :
    wpList Ybaf.prog ops Q (o :: rest) a w := by
  obtain ⟨i0, hi, hz0, hz1, hz2⟩ := info_parts Ybaf.info5
  subst hn hm
  have hl := pageCells_length xs hp.len
  refine wpList_copy_splice hgd d s 26 26 ho 5 Ybaf.underlying26 (by rw [hi]; simp [hz1]) dp (some ad) dLen dCap ys.length c hd hx g xs.length (pageCells xs) 5 hp.row (ys.map (.int .u8)) (by rw [List.length_map, hdl]; exact (Nat.min_eq_left (by omega)).symm)
    (fun h0 => ⟨hdp (by rw [List.length_map] at h0; omega), ad, rfl, fun j u hu => ?_⟩) (by simp [hl]; omega) (by simp [Value.oneCell']) B w0 hb hBg ?_
  · rw [List.getElem?_map, Option.map_eq_some_iff] at hu
    obtain ⟨y, hy, rfl⟩ := hu
    exact hnews j y hy
  · intro w' hw' hb'
    rw [List.length_map]
    exact h w' ⟨by have := hw'.out; rw [pageCells_splice xs ys hroom] at this; exact this, by simp; exact hroom⟩ hb'

theorem wrap8 (n : Nat) : IntKind.u8.wrap (n : Int) = (n : Int) % 256 := by
  simp [IntKind.wrap, IntKind.signed, IntKind.bits]

set_option maxRecDepth 100000 in
set_option maxHeartbeats 400000 in
theorem leafpage8 (w : World) (kb vb : Nat) (n c d : Nat) (K V : Nat → List Int) (hn : n ≤ 1024)
    (hk : Bufs w kb n K) (hv : Bufs w vb n V) (hs : lsz K V n ≤ 4092) :
    Calls Ybaf.prog 8 #[.slice (some ⟨kb, 0, none⟩) n c, .slice (some ⟨vb, 0, none⟩) n d] w fun e w' => e = .returned (.slice (some ⟨w.heap.size, 0, none⟩) 4092 4092) ∧ PRow w' w.heap.size (lbytes K V n n) ∧ Below w.heap.size w w' := by
  obtain ⟨g, HG⟩ : ∃ g, Hid (g = w.heap.size) := ⟨_, rfl⟩
  have hlt : w.heap.size ≤ g := by rw [HG.out]; exact Nat.le_refl _
  go_enter Ybaf.func8, Ybaf.ntmps8
  go_wp2_with (at_make; refine wpList_make_page rfl _ _ rfl 4092 (by omega) rfl rfl ?_)
  intro w1 hp1 hg1
  have bel1 : Below w.heap.size w w1 := (Below.refl _ _).grown hg1 (Nat.le_refl _) (fun k hk => nomatch hk)
  clear hg1
  rw [← HG.out] at hp1 bel1 ⊢
  go_wp2_with (refine wpList_store_page_end rfl (.tmp 13) (.const (.int .u8 1)) rfl rfl g 0 1 rfl rfl _ hp1 (by omega) rfl ?_)
  intro w2 hp2 hg2
  have bel2 : Below g w w2 := bel1.grown hg2 (by rw [HG.out]; exact bel1.size) (fun k hk => by cases hk; exact Nat.le_refl _)
  have hp3 := hp2.zero (by simp)
  clear hg2 hp2 bel1
  go_wp2_with (refine wpList_store_page_end rfl (.tmp 19) (.tmp 18) rfl rfl g 2 ((n : Int) % 256) rfl rfl _ hp3 (by omega) rfl ?_)
  intro w3 hp4 hg3
  have bel3 : Below g w w3 := bel2.grown hg3 (by rw [HG.out]; exact bel2.size) (fun k hk => by cases hk; exact Nat.le_refl _)
  clear hg3 hp3 bel2
  go_wp2_with (refine wpList_store_page_end rfl (.tmp 24) (.tmp 23) rfl rfl g 3 ((n : Int) / 256) rfl rfl _ hp4 (by omega) rfl ?_)
  intro w4 hp5 hg4
  have bel4 : Below g w w4 := bel3.grown hg4 (by rw [HG.out]; exact bel3.size) (fun k hk => by cases hk; exact Nat.le_refl _)
  clear hg4 hp4 bel3
  have hp6 : PRow w4 g (lbytes K V n 0) := hp5
  clear hp5
  go_wp2
  go_loopg [7, 8] n (fun gk t7 t8 wr => ∃ k : Nat, k + gk = n ∧ t8 = .int .i64 k ∧ t7 = .int .i64 (lsz K V k) ∧ PRow wr g (lbytes K V n k) ∧ Below g w wr)
  case atStart => exact ⟨0, by omega, rfl, rfl, hp6, bel4⟩
  case round =>
    clear hp6 bel4
    obtain ⟨k, hkn, rfl, rfl, hp, bel⟩ := hrel
    by_cases hlt' : k < n
    · have hbel : ∀ w', Below g w w' → Below w.heap.size w w' := fun w' h => h.mono hlt
      obtain ⟨p, cp, e1, H1'⟩ := hk.at_ (hbel _ bel) hlt'
      have H1 := Hid.mk' H1'
      obtain ⟨q, cq, e2, H2'⟩ := hv.at_ (hbel _ bel) hlt'
      have H2 := Hid.mk' H2'
      clear H1' H2'
      have hle : lsz K V (k + 1) ≤ 4092 := Nat.le_trans (lsz_mono K V (k + 1) n hlt') hs
      have HA := lbytes_length K V n k
      have HS : Hid (lsz K V (k + 1) = lsz K V k + (4 + (K k).length + (V k).length)) := rfl
      have HP : Hid (PRow wr g (lbytes K V n k)) := hp
      have HL : Hid (lbytes K V n (k + 1) = lbytes K V n k ++ pairBytes (K k) (V k)) := rfl
      have hle2 : lsz K V k + (4 + (K k).length + (V k).length) ≤ 4092 := hle
      generalize hA : lsz K V k = A at *
      generalize hX : lbytes K V n k = X at *
      have HX : Hid (A = X.length) := HA.symm
      obtain ⟨x, HKx⟩ : ∃ x, Hid (x = (K k).length) := ⟨_, rfl⟩
      obtain ⟨y, HVy⟩ : ∃ y, Hid (y = (V k).length) := ⟨_, rfl⟩
      rw [← HKx.out, ← HVy.out] at hle2
      rw [← HKx.out] at e1
      rw [← HVy.out] at e2
      clear hA hX hp HA hle
      go_wp2_with (refine wpList_store_page_end rfl (.tmp 44) (.tmp 43) rfl rfl g A ((x : Int) % 256) rfl rfl X HP.out (by omega) HX.out ?_)
      intro w5 hp5 hg5
      have bel5 : Below g w w5 := bel.grown hg5 (by rw [HG.out]; exact bel.size) (fun k hk => by cases hk; exact Nat.le_refl _)
      clear hg5
      have HP5 := Hid.mk' hp5
      clear hp5
      go_wp2_with (refine wpList_store_page_end rfl (.tmp 52) (.tmp 51) rfl rfl g (A + 1) ((x : Int) / 256) rfl rfl _ HP5.out (by omega) ?c2 ?_)
      case c2 => rw [HX.out]; simp
      intro w6 hp6 hg6
      have bel6 : Below g w w6 := bel5.grown hg6 (by rw [HG.out]; exact bel5.size) (fun k hk => by cases hk; exact Nat.le_refl _)
      clear hg6
      have HP6 := Hid.mk' hp6
      clear hp6
      go_wp2_with (refine wpList_store_page_end rfl (.tmp 59) (.tmp 58) rfl rfl g (A + 2) ((y : Int) % 256) rfl rfl _ HP6.out (by omega) ?c2 ?_)
      case c2 => rw [HX.out]; simp
      intro w7 hp7 hg7
      have bel7 : Below g w w7 := bel6.grown hg7 (by rw [HG.out]; exact bel6.size) (fun k hk => by cases hk; exact Nat.le_refl _)
      clear hg7
      have HP7 := Hid.mk' hp7
      clear hp7
      go_wp2_with (refine wpList_store_page_end rfl (.tmp 67) (.tmp 66) rfl rfl g (A + 3) ((y : Int) / 256) rfl rfl _ HP7.out (by omega) ?c2 ?_)
      case c2 => rw [HX.out]; simp
      intro w8 hp8 hg8
      have bel8 : Below g w w8 := bel7.grown hg8 (by rw [HG.out]; exact bel7.size) (fun k hk => by cases hk; exact Nat.le_refl _)
      clear hg8
      have HP8 := Hid.mk' hp8
      clear hp8
      have HF : Hid (lbytes K V n (k + 1) = X ++ [(x : Int) % 256] ++ [(x : Int) / 256] ++ [(y : Int) % 256] ++ [(y : Int) / 256] ++ K k ++ V k) := by
        rw [HL.out]
        unfold pairBytes
        rw [← HKx.out, ← HVy.out]
        simp [Hid, List.append_assoc]
      have HE : Hid (A + 4 + x + y = lsz K V (k + 1)) := by rw [HS.out, ← HKx.out, ← HVy.out]; show _ = _; omega
      by_cases f1 : A + 4 < 4092
      · go_wp2_with (refine wpList_copy_page rfl (.tmp 73) (.tmp 74) rfl g _ (A + 4) ?c0 HP8.out _ _ _ rfl ?c1 ?c2 ⟨p, 0, none⟩ (K k) x cp HKx.out rfl (H1.out _ (hbel _ bel8)).2 (by omega) g w bel8 (Nat.le_refl _) ?_)
        case c0 => rw [HX.out]; simp
        case c1 => rfl
        intro w9 hp9 bel9
        have HP9 := Hid.mk' hp9
        clear hp9
        by_cases f2 : A + 4 + x < 4092
        · go_wp2_with (refine wpList_copy_page rfl (.tmp 80) (.tmp 81) rfl g _ (A + 4 + x) ?d0 HP9.out _ _ _ rfl ?d1 ?d2 ⟨q, 0, none⟩ (V k) y cq HVy.out rfl (H2.out _ (hbel _ bel9)).2 (by omega) g w bel9 (Nat.le_refl _) ?_)
          case d0 => rw [HX.out, HKx.out]; simp; omega
          case d1 => rfl
          intro w10 hp10 bel10
          have HP10 : Hid (PRow w10 g (lbytes K V n (k + 1))) := by rw [HF.out]; simpa [Hid] using hp10
          clear hp10
          go_wp2
          go_roundg (gk - 1)
          case rel => exact ⟨k + 1, by omega, by go_num, by rw [← HE.out]; go_num, HP10.out, bel10⟩
          case measure => omega
        · obtain rfl : y = 0 := by omega
          go_wp2_with (refine wpList_copy_page rfl (.tmp 80) (.tmp 81) rfl g _ (A + 4 + x) ?d0 HP9.out _ _ _ rfl (by omega) (fun h => absurd h (by omega)) ⟨q, 0, none⟩ (V k) 0 cq HVy.out rfl (H2.out _ (hbel _ bel9)).2 (by omega) g w bel9 (Nat.le_refl _) ?_)
          case d0 => rw [HX.out, HKx.out]; simp; omega
          intro w10 hp10 bel10
          have HP10 : Hid (PRow w10 g (lbytes K V n (k + 1))) := by rw [HF.out]; simpa [Hid] using hp10
          clear hp10
          go_wp2
          rw [show A + 4 + x = 4092 by omega]
          go_roundg (gk - 1)
          case rel => exact ⟨k + 1, by omega, by go_num, by rw [← HE.out]; go_num, HP10.out, bel10⟩
          case measure => omega
      · obtain rfl : A = 4088 := by omega
        obtain rfl : x = 0 := by omega
        obtain rfl : y = 0 := by omega
        go_wp2_with (refine wpList_copy_page rfl (.tmp 73) (.tmp 74) rfl g _ 4092 ?e0 HP8.out _ _ _ rfl (by omega) (fun h => absurd h (by omega)) ⟨p, 0, none⟩ (K k) 0 cp HKx.out rfl (H1.out _ (hbel _ bel8)).2 (by omega) g w bel8 (Nat.le_refl _) ?_)
        case e0 => have := HX.out; simp; omega
        intro w9 hp9 bel9
        have HP9 := Hid.mk' hp9
        clear hp9
        go_wp2_with (refine wpList_copy_page rfl (.tmp 80) (.tmp 81) rfl g _ 4092 ?d0 HP9.out _ _ _ rfl (by omega) (fun h => absurd h (by omega)) ⟨q, 0, none⟩ (V k) 0 cq HVy.out rfl (H2.out _ (hbel _ bel9)).2 (by omega) g w bel9 (Nat.le_refl _) ?_)
        case d0 => have := HX.out; have := HKx.out; simp; omega
        intro w10 hp10 bel10
        have HP10 : Hid (PRow w10 g (lbytes K V n (k + 1))) := by rw [HF.out]; simpa [Hid] using hp10
        clear hp10
        go_wp2
        go_roundg (gk - 1)
        case rel => exact ⟨k + 1, by omega, by go_num, by rw [← HE.out]; go_num, HP10.out, bel10⟩
        case measure => omega
    · obtain rfl : k = n := by omega
      go_wp2
      go_ret
      rw [← HG.out]
      exact ⟨rfl, hp, bel⟩
end Go.Proofs.YbulkciosFmt
