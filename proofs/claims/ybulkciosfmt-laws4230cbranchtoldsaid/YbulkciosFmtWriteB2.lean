/-
  'write' (6) of a branch: the walk.
-/
import Derived.Test.YbulkciosFmtWriteB
namespace Go.Proofs.YbulkciosFmt
open Go.RowKit Go.Extern.Stop Go.Stop Go.Extern

/-- The branch's row. -/
def parRow (pid : Int) (dirty : Bool) (so : Option Addr) (N c kb nb M : Nat) (psz : Nat) : List Value := nodeRow pid dirty false (.slice so N c) (.slice none 0 0) (.slice (some ⟨kb, 0, none⟩) M M) (.slice (some ⟨nb, 0, none⟩) M M) psz

/-- What 'write' leaves of a branch. -/
def bPost (B0 : Nat) (w : World) (b bp bt bn kb nb : Nat) (pid : Int) (so : Option Addr) (N c M : Nat) (S : Nat → List Int) (Q : Nat → Kid) (base : Int) (e : Ending) (w' : World) : Prop :=
  Ft B0 b w w' ∧
  ((∃ i, i < M ∧ fitsTo Q i ∧ (Q i).hot = true ∧ 4092 < (Q i).sz ∧ (∃ q, e = .returned (.tuple #[.int .u64 0, .iface 97 q])) ∧ WEnd w' b bp bt (inc (nxt Q base i)) (hots Q i + 1) (idsTo Q base i) (pgsTo Q i) (frdTo Q i) ∧ RowAt w' bn 34 (parRow pid true so N c kb nb M (bsz S N))) ∨
   (fitsTo Q M ∧ 4092 < bsz S N ∧ (∃ q, e = .returned (.tuple #[.int .u64 0, .iface 97 q])) ∧ WEnd w' b bp bt (inc (nxt Q base M)) (hots Q M + 1) (idsTo Q base M) (pgsTo Q M) (frdTo Q M) ∧ RowAt w' bn 34 (parRow pid true so N c kb nb M (bsz S N))) ∨
   (fitsTo Q M ∧ bsz S N ≤ 4092 ∧ e = .returned (.tuple #[.int .u64 (inc (nxt Q base M)), .nilIface]) ∧ WEnd w' b bp bt (inc (nxt Q base M)) (hots Q M + 1) (idsTo Q base M ++ [inc (nxt Q base M)]) (pgsTo Q M ++ [bbytes S (expAt Q base) N N]) (frdTo Q M ++ one pid) ∧
      RowAt w' bn 34 (parRow (inc (nxt Q base M)) false so N c kb nb M (bsz S N)) ∧ RowAt w' kb 23 (curK Q base M M)))

theorem ptrs_get (Q : Nat → Kid) (nd : Nat → Nat) (M i : Nat) (h : i < M) : (ptrs Q nd M)[i]? = some (if (Q i).loaded then .pointer (some ⟨nd i, 0, none⟩) else .pointer none) := by
  simp [ptrs, h]

theorem curK_get (Q : Nat → Kid) (base : Int) (M i : Nat) (h : i < M) : (curK Q base M M)[i]? = some (.int .u64 (expAt Q base i)) := by
  simp [curK, h]

theorem fits_step {Q : Nat → Kid} {i : Nat} (h : fitsTo Q i) (hi : (Q i).hot = true → (Q i).sz ≤ 4092) : fitsTo Q (i + 1) := fun j hj hot => by
  rcases Nat.lt_or_ge j i with a | a
  · exact h j a hot
  · obtain rfl : j = i := by omega
    exact hi hot

theorem inc_u64 (x : Int) : U64 (inc x) := by
  unfold inc U64
  simp [IntKind.wrap, IntKind.signed, IntKind.bits]
  omega

set_option maxRecDepth 100000 in
set_option maxHeartbeats 4000000 in
theorem write6_b (F : Interp) (B0 : Nat) (w : World) (hF : F.answers w.tape) (b bp bt bn kb nb : Nat) (pid : Int) (so : Option Addr) (sb N c M : Nat) (S : Nat → List Int) (Q : Nat → Kid) (base : Int) (nd : Nat → Nat)
    (P : Places B0 b bp bt bn kb nb nd Q M) (hI : WInv B0 w w b bp bt bn kb nb (parRow pid true so N c kb nb M (bsz S N)) Q base nd M 0) (hok : ∀ j, j < M → (Q j).Ok) (hM : N + 1 = M) (hN : M ≤ 256)
    (hso : 0 < N → so = some ⟨sb, 0, none⟩) (hS : ∀ w', Ft B0 b w w' → Bufs w' sb N S) (hSl : ∀ j, j < N → (S j).length ≤ 140737488355328) :
    Calls Ybaf.prog 6 #[.pointer (some ⟨bt, 0, none⟩), .pointer (some ⟨bn, 0, none⟩)] w (bPost B0 w b bp bt bn kb nb pid so N c M S Q base) := by
  have c1 : w.cell? ⟨bn, 1, none⟩ = some (.bool true) := hI.par.cell 1
  have c8 : w.cell? ⟨bn, 8, none⟩ = some (.slice (some ⟨nb, 0, none⟩) M M) := hI.par.cell 8
  have HI := Hid.mk' hI
  have HP := Hid.mk' P
  have HFF := Hid.mk' hF
  have HOK := Hid.mk' hok
  have HMN := Hid.mk' hM
  have HSS := Hid.mk' hS
  clear hI P hF hok hM hS
  go_enter Ybaf.func6, Ybaf.ntmps6
  go_wp2_with fail
  go_loopg [28] M (fun gk t28 wr => ∃ i : Nat, i + gk = M ∧ t28 = .int .i64 i ∧ WInv B0 w wr b bp bt bn kb nb (parRow pid true so N c kb nb M (bsz S N)) Q base nd M i)
  case atStart => exact ⟨0, by omega, rfl, HI.out⟩
  case round =>
    clear c1 c8
    obtain ⟨i, hik, rfl, hw⟩ := hrel
    have HW := Hid.mk' hw
    clear hw
    by_cases hlt : i < M
    · have hnode := (HW.out.nodes.cell i).trans (ptrs_get Q nd M i hlt)
      have c7 : wr.cell? ⟨bn, 7, none⟩ = some (.slice (some ⟨kb, 0, none⟩) M M) := HW.out.par.cell 7
      cases hl : (Q i).loaded with
      | false =>
        rw [hl] at hnode
        have hnode' : wr.cell? ⟨nb, i, none⟩ = some (.pointer none) := hnode
        have hh : (Q i).hot = false := by simp [Kid.hot, hl]
        have HW2 : Hid (WInv B0 w wr b bp bt bn kb nb (parRow pid true so N c kb nb M (bsz S N)) Q base nd M (i + 1)) := by
          have h := HW.out
          refine ⟨?_, h.par, ?_, h.nodes, fun j h1 h2 h3 => h.left j (by omega) h2 h3, h.ft, fits_step h.fits (fun e => by rw [hh] at e; cases e)⟩
          · have := h.st
            simpa [nxt, hots, idsTo, pgsTo, frdTo, hh] using this
          · rw [← curK_skip Q base M i (by simp [expAt, hh])]
            exact h.kids
        clear hnode
        go_wp2
        go_roundg (gk - 1)
        case rel => exact ⟨i + 1, by omega, by go_num, HW2.out⟩
        case measure => omega
      | true =>
        rw [hl] at hnode
        have hnode' : wr.cell? ⟨nb, i, none⟩ = some (.pointer (some ⟨nd i, 0, none⟩)) := hnode
        have HKA := Hid.mk' (HW.out.left i (Nat.le_refl _) hlt hl)
        obtain ⟨ndi, HND⟩ : ∃ x, Hid (x = nd i) := ⟨_, rfl⟩
        rw [← HND.out] at hnode'
        clear hnode
        rw [← HND.out] at HKA
        cases hd : (Q i).dirty with
        | false =>
          have hh : (Q i).hot = false := by simp [Kid.hot, hl, hd]
          have HKR : Hid (∃ a1 a2, RowAt wr ndi 34 (nodeRow (Q i).old false true a1 a2 (.slice none 0 0) (.slice none 0 0) (Q i).sz)) := by
            obtain ⟨_, _, _, _, _, _, _, _, _, r1, _⟩ := HKA.out
            rw [hd] at r1
            exact ⟨_, _, r1⟩
          obtain ⟨a1, a2, hr1⟩ := HKR.out
          have HR1 := Hid.mk' hr1
          clear hr1 HKR
          go_wp2_with fail
          refine (write6_clean wr bt ndi (Q i).old true _ _ _ _ _ HR1.out).mono ?_
          rintro e w1 ⟨rfl, rfl⟩
          obtain ⟨o, HO⟩ : ∃ o, Hid (o = (Q i).old) := ⟨_, rfl⟩
          rw [← HO.out]
          go_wp2_with (refine wpList_store_row rfl 23 (.tmp 50) (.tmp 49) rfl rfl kb i (.int .u64 o) rfl rfl 23 _ HW.out.kids Ybaf.size23 rfl rfl ?c1 ?_)
          case c1 => rw [curK_length]; exact hlt
          intro w2 r2 g2
          have HW2 : Hid (WInv B0 w w2 b bp bt bn kb nb (parRow pid true so N c kb nb M (bsz S N)) Q base nd M (i + 1)) := by
            have h := HW.out
            refine WInv.next HP.out ?_ h.par h.kids h.nodes (fun j h1 h2 h3 => h.left j (by omega) h2 h3) h.ft (fits_step h.fits (fun e => by rw [hh] at e; cases e)) ?_ g2
            · have := h.st
              simpa [nxt, hots, idsTo, pgsTo, frdTo, hh] using this
            · rw [← curK_set Q base M i o (by rw [HO.out]; simp [expAt, hh])]
              exact r2
          clear r2 g2
          go_wp2
          go_roundg (gk - 1)
          case rel => exact ⟨i + 1, by omega, by go_num, HW2.out⟩
          case measure => omega
        | true =>
          have hh : (Q i).hot = true := by simp [Kid.hot, hl, hd]
          have HKR : Hid (∃ a1 a2, RowAt wr ndi 34 (nodeRow (Q i).old true true a1 a2 (.slice none 0 0) (.slice none 0 0) (Q i).sz)) := by
            obtain ⟨_, _, _, _, _, _, _, _, _, r1, _⟩ := HKA.out
            rw [hd] at r1
            exact ⟨_, _, r1⟩
          obtain ⟨a1, a2, hr1⟩ := HKR.out
          have HR1 := Hid.mk' hr1
          clear hr1 HKR
          obtain ⟨pages, vi, vb, vf, hst, hpg⟩ := HW.out.st
          have HST := Hid.mk' hst
          have HPG := Hid.mk' hpg
          clear hst hpg
          have hl1 : (idsTo Q base i).length ≤ 1000 := by rw [idsTo_length]; have := hots_le Q i; omega
          have hl2 : pages.length ≤ 1000 := by
            have e : pages.length = (pgsTo Q i).length := by rw [← HPG.out]; simp
            rw [e, pgsTo_length]; have := hots_le Q i; omega
          have hl3 : (frdTo Q i).length ≤ 1000 := by have := frdTo_length Q i; omega
          have hl4 : hots Q i ≤ 1000 := by have := hots_le Q i; omega
          have hob := HOK.out i hlt
          have hszb : (Q i).sz < 9223372036854775808 := by have := hob.k; have := hob.v; unfold Kid.sz; omega
          by_cases hbig : 4092 < (Q i).sz
          · go_wp2_with fail
            refine (write6_big F wr (by rw [HW.out.ft.tape]; exact HFF.out) b bp bt ndi (nxt Q base i) false (hots Q i) (idsTo Q base i) pages (frdTo Q i) vi vb vf HST.out hl4 (Q i).old true a1 a2 (.slice none 0 0) (Q i).sz HKA.out.type.2 HR1.out (Q i).sz hszb (.inl hbig) (fun w' hf _ => kid_size HKA.out hob HST.out.pg.type w' hf)).mono ?_
            rintro e w1 ⟨⟨q, rfl⟩, hs1, hn1, hf1⟩
            have HEND : Hid (bPost B0 w b bp bt bn kb nb pid so N c M S Q base (.returned (.tuple #[.int .u64 0, .iface 97 q])) w1) := by
              rw [HND.out] at hf1
              obtain ⟨k1, k2, k3, k4, k5⟩ := HW.out.kid HP.out hlt hl hf1
              exact ⟨k5, .inl ⟨i, hlt, HW.out.fits, hh, hbig, ⟨q, rfl⟩, ⟨pages, vi, vb, vf, hs1, HPG.out⟩, k1⟩⟩
            clear hs1 hn1 hf1
            go_wp2
            go_ret2
            exact HEND.out
          · have hfit : (Q i).sz ≤ 4092 := by omega
            go_wp2_with fail
            refine (write6_fits wr b bp bt ndi (nxt Q base i) false (hots Q i) (idsTo Q base i) pages (frdTo Q i) vi vb vf HST.out hl4 hl1 hl2 hl3 (Q i).old true a1 a2 (.slice none 0 0) (Q i).sz hfit HKA.out.type.2 HR1.out (Q i).page (fun w' hf _ => kid_size HKA.out hob HST.out.pg.type w' hf) (fun w' hf _ => kid_enc HKA.out hfit HST.out.pg.type w' hf)).mono ?_
            rintro e w1 ⟨g, vi', vb', vf', hf1, he, hs1, hn1⟩
            obtain rfl : e = .returned (.tuple #[.int .u64 (inc (nxt Q base i)), .nilIface]) := he
            have HS1 := Hid.mk' hs1
            rw [HND.out] at hf1
            have HK := Hid.mk' (HW.out.kid HP.out hlt hl hf1)
            have c7 : w1.cell? ⟨bn, 7, none⟩ = some (.slice (some ⟨kb, 0, none⟩) M M) := HK.out.1.cell 7
            clear hs1 hn1 hf1
            obtain ⟨o, HO⟩ : ∃ o, Hid (o = inc (nxt Q base i)) := ⟨_, rfl⟩
            rw [← HO.out]
            go_wp2_with (refine wpList_store_row rfl 23 (.tmp 50) (.tmp 49) rfl rfl kb i (.int .u64 o) rfl rfl 23 _ HK.out.2.1 Ybaf.size23 rfl rfl ?c1 ?_)
            case c1 => rw [curK_length]; exact hlt
            intro w2 r2 g2
            have HW2 : Hid (WInv B0 w w2 b bp bt bn kb nb (parRow pid true so N c kb nb M (bsz S N)) Q base nd M (i + 1)) := by
              obtain ⟨k1, k2, k3, k4, k5⟩ := HK.out
              refine WInv.next HP.out ?_ k1 k2 k3 k4 k5 (fits_step HW.out.fits (fun _ => hfit)) ?_ g2
              · refine ⟨pages ++ [(g, (Q i).page)], vi', vb', vf', ?_, ?_⟩
                · have := HS1.out
                  simpa [nxt, hots, idsTo, frdTo, hh] using this
                · simp [pgsTo, hh, HPG.out]
              · rw [← curK_set Q base M i o (by rw [HO.out]; simp [expAt, hh])]
                exact r2
            clear r2 g2
            go_wp2
            go_roundg (gk - 1)
            case rel => exact ⟨i + 1, by omega, by go_num, HW2.out⟩
            case measure => omega
    · obtain rfl : i = M := by omega
      obtain ⟨pages, vi, vb, vf, hst, hpg⟩ := HW.out.st
      have HST := Hid.mk' hst
      have HPG := Hid.mk' hpg
      clear hst hpg
      have hl1 : (idsTo Q base i).length ≤ 1000 := by rw [idsTo_length]; have := hots_le Q i; omega
      have hl2 : pages.length ≤ 1000 := by
        have e : pages.length = (pgsTo Q i).length := by rw [← HPG.out]; simp
        rw [e, pgsTo_length]; have := hots_le Q i; omega
      have hl3 : (frdTo Q i).length ≤ 1000 := by have := frdTo_length Q i; omega
      have hl4 : hots Q i ≤ 1000 := by have := hots_le Q i; omega
      have HNN : Hid (N ≤ 255) := by have := HMN.out; show _ ≤ _; omega
      have hbz := bsz_le S N hSl
      obtain ⟨psz, HPZ⟩ : ∃ x, Hid (x = bsz S N) := ⟨_, rfl⟩
      rw [← HPZ.out] at hbz
      have hpz : psz < 9223372036854775808 := by have := HNN.out; omega
      clear hbz
      have HPAR : Hid (RowAt wr bn 34 (parRow pid true so N c kb nb i psz)) := by rw [HPZ.out]; exact HW.out.par
      have t0 : wr.cell? ⟨bt, 0, none⟩ = some (.iface 35 (.pointer (some ⟨bp, 0, none⟩))) := HST.out.tr.cell 0
      have HFT : Hid (∀ w', Fr b [bp, bt, bn] wr w' → Ft B0 b w w') := fun w' hf => HW.out.ft.trans (Ft.of_fr hf fun k hk => by
        simp only [List.mem_cons, List.not_mem_nil, or_false] at hk
        rcases hk with rfl | rfl | rfl
        · exact ⟨HP.out.lbp, 37, HST.out.pg.type, by simp⟩
        · exact ⟨HP.out.lbt, 48, HST.out.tr.type, by simp⟩
        · exact ⟨HP.out.lbn, 34, HPAR.out.type, by simp⟩)
      have hm := Ybaf.mAlloc
      have hmw := Ybaf.mWrite
      go_wp2_with fail
      refine (alloc74 wr bp (nxt Q base i) false false (hots Q i) vi vb HST.out.pg hl4).mono ?_
      rintro e w1 ⟨he, hr, hg⟩
      have HS1 : Hid (St w1 b bp bt (inc (nxt Q base i)) false false (hots Q i + 1) (idsTo Q base i) pages (frdTo Q i) vi vb vf) := HST.out.alloc hr hg
      have HF0 : Hid (Fr b [bp] wr w1) := (Fr.refl _ _ _).grown hg HST.out.rows.b (fun k hk => by cases hk; exact .inr (by simp))
      have HN1 : Hid (RowAt w1 bn 34 (parRow pid true so N c kb nb i psz)) := HPAR.out.grown hg (fun e => by cases e; exact RowAt.ne HST.out.pg HPAR.out (by decide) rfl)
      clear hr hg
      obtain rfl : e = .returned (.tuple #[.int .u64 (inc (nxt Q base i)), .nilIface]) := he
      obtain ⟨nx, HNX⟩ : ∃ nx, Hid (nx = inc (nxt Q base i)) := ⟨_, rfl⟩
      rw [← HNX.out] at HS1 ⊢
      clear t0
      go_wp2_with fail
      refine (size11b w1 bn so sb (some ⟨kb, 0, none⟩) N c i S (.slice none 0 0) ⟨HN1.out.cell 2, HN1.out.cell 3, HN1.out.cell 5, HN1.out.cell 6⟩ (by rw [HMN.out]; exact HN1.out.cell 7) (by have := HNN.out; omega) hso (HSS.out w1 (HFT.out w1 (HF0.out.mono (by simp)))) hSl).mono ?_
      rintro e w2 ⟨rfl, m, rfl⟩
      rw [← HPZ.out]
      have c9 : (w1.drewN m).cell? ⟨bn, 9, none⟩ = some (.int .i64 psz) := HN1.out.cell 9
      have HS2 := Hid.mk' (HS1.out.drewN m)
      have HN2 : Hid (RowAt (w1.drewN m) bn 34 (parRow pid true so N c kb nb i psz)) := HN1.out
      have HF2 : Hid (Fr b [bp] wr (w1.drewN m)) := ⟨HF0.out.os, HF0.out.tape, HF0.out.output, HF0.out.size, HF0.out.block⟩
      clear HS1 HF0 HN1
      generalize w1.drewN m = w2 at *
      have hT : F.answers (w2.alloc (.cells #[.iface 3 (.int .i64 psz), .iface 3 (.int .i64 psz), .iface 3 (.int .i64 4092)] 20)).tape := by
        show F.answers w2.tape
        rw [HF2.out.tape, HW.out.ft.tape]; exact HFF.out
      have HT := Hid.mk' hT
      clear hT
      have RN : Hid (RowAt (w2.alloc (.cells #[.iface 3 (.int .i64 psz), .iface 3 (.int .i64 psz), .iface 3 (.int .i64 4092)] 20)) w2.heap.size 20 [.iface 3 (.int .i64 psz), .iface 3 (.int .i64 psz), .iface 3 (.int .i64 4092)]) := heap_alloc_new w2 _
      by_cases hb : 4092 < psz
      · go_wp2_with fail
        refine (errorf12 F psz psz 4092 w2.heap.size _ HT.out (RN.out.cell 0) (RN.out.cell 1) (RN.out.cell 2)).mono ?_
        rintro e w3 ⟨⟨q, rfl⟩, hg3⟩
        have hg4 : w2.grownBy w3 none := grown_two (grown_alloc _ _) hg3 (.inl rfl) (.inl rfl)
        have HEND : Hid (bPost B0 w b bp bt bn kb nb pid so N c i S Q base (.returned (.tuple #[.int .u64 0, .iface 97 q])) w3) := by
          have hf3 : Fr b [bp, bt, bn] wr w3 := (HF2.out.mono (by simp)).grown hg4 HST.out.rows.b (fun k hk => nomatch hk)
          refine ⟨HFT.out w3 hf3, .inr (.inl ⟨HW.out.fits, by rw [← HPZ.out]; exact hb, ⟨q, rfl⟩, ⟨pages, vi, vb, vf, by rw [← HNX.out]; exact HS2.out.more hg4, HPG.out⟩, ?_⟩)⟩
          rw [← HPZ.out]
          exact HN2.out.grown hg4 (by simp)
        clear hg3 hg4
        go_wp2
        go_ret2
        exact HEND.out
      · have hsz : psz ≤ 4092 := by omega
        have HKB : Hid (∀ w', Fr b [bp] wr w' → RowAt w' kb 23 (curK Q base i i)) := fun w' hf => hf.row HW.out.kids HP.out.hkb (by simpa using TypeAt.ne HW.out.kids.type HST.out.pg.type (by decide))
        have HEN : Hid (∀ w', Fr b [bp] wr w' → RowAt w' bn 34 (parRow pid true so N c kb nb i psz) → Calls Ybaf.prog 14 #[.pointer (some ⟨bn, 0, none⟩)] w' fun e w'' => e = .returned (.slice (some ⟨w'.heap.size, 0, none⟩) 4092 4092) ∧ PRow w'' w'.heap.size (bbytes S (expAt Q base) N N) ∧ Below w'.heap.size w' w'') := fun w' hf hr =>
          encode14b w' bn so sb kb N c i S (expAt Q base) (.slice none 0 0) ⟨hr.cell 2, hr.cell 3, hr.cell 5, hr.cell 6⟩ (by rw [HMN.out]; exact hr.cell 7) (by have := HNN.out; omega) hso (HSS.out w' (HFT.out w' (hf.mono (by simp))))
            (fun j hj => ⟨by
              unfold expAt
              split
              · exact inc_u64 _
              · exact (HOK.out j (by have := HMN.out; omega)).old, ((HKB.out w' hf).cell j).trans (curK_get Q base i j (by have := HMN.out; omega))⟩) (by rw [← HPZ.out]; exact hsz)
        obtain ⟨xs, HXS⟩ : ∃ xs, Hid (xs = bbytes S (expAt Q base) N N) := ⟨_, rfl⟩
        rw [← HXS.out] at HEN
        have t1 : w2.cell? ⟨bt, 1, none⟩ = some (.pointer none) := HS2.out.tr.cell 1
        go_wp2_with fail
        refine (forget13 w2 nx).mono ?_
        rintro e w3 ⟨rfl, rfl⟩
        clear c9 t1 HT RN
        have t0 : w3.cell? ⟨bt, 0, none⟩ = some (.iface 35 (.pointer (some ⟨bp, 0, none⟩))) := HS2.out.tr.cell 0
        go_wp2_with fail
        go_region_held3 (fun w' => w'.cell? ⟨bt, 0, none⟩ = some (.iface 35 (.pointer (some ⟨bp, 0, none⟩)))) (first | exact t0 | assumption)
          (first
            | (go_at_call 14; refine (HEN.out w3.drew ⟨HF2.out.os, HF2.out.tape, HF2.out.output, HF2.out.size, HF2.out.block⟩ HN2.out).mono ?_; rintro e w4 ⟨rfl, hp4, hb4⟩; have HS4 := Hid.mk' (HS2.out.drew.more (grown_of_below hb4)); have s0 : w4.cell? ⟨bt, 0, none⟩ = some (.iface 35 (.pointer (some ⟨bp, 0, none⟩))) := HS4.out.tr.cell 0)
            | (go_at_call 75; refine (write75 w4 b bp bt nx false false (hots Q i + 1) (idsTo Q base i) pages (frdTo Q i) vi vb vf HS4.out nx w3.heap.size xs HS2.out.rows.b hp4 hl1 hl2).mono ?_; rintro e w5 ⟨rfl, ⟨vi', vb', hs5⟩, hf5⟩; have s5 : w5.cell? ⟨bt, 0, none⟩ = some (.iface 35 (.pointer (some ⟨bp, 0, none⟩))) := hs5.tr.cell 0))
        have HS5 := Hid.mk' hs5
        have hf4 : Fr b [bp] w3 w4 := ⟨hb4.os, hb4.tape, hb4.output, hb4.size, fun k hk _ => hb4.block k (Nat.lt_of_lt_of_le hk HS2.out.rows.b)⟩
        have HF5 : Hid (Fr b [bp] wr w5) := (HF2.out.trans hf4).trans hf5
        have HN5 : Hid (RowAt w5 bn 34 (parRow pid true so N c kb nb i psz)) := (hf4.trans hf5).row HN2.out HP.out.hbn (fun e => by
          have := RowAt.ne HS2.out.pg HN2.out (by decide)
          simp at e
          exact this e.symm)
        clear hs5 hf5 hf4 hb4 s0 s5 t0 hp4
        go_wp2_with fail
        refine (drop15 w5 b bp bt bn nx false false (hots Q i + 1) (idsTo Q base i ++ [nx]) (pages ++ [(w3.heap.size, xs)]) (frdTo Q i) vi' vb' vf HS5.out pid true false _ _ _ _ psz HP.out.hbn HN5.out hl3).mono ?_
        rintro e w6 ⟨rfl, ⟨vf', hs6⟩, hn6, hf6⟩
        have HS6 := Hid.mk' hs6
        have HN6 := Hid.mk' hn6
        have HF6 : Hid (Fr b [bp, bt, bn] wr w6) := (HF5.out.mono (by simp)).trans (hf6.mono (by simp))
        clear hs6 hn6 hf6
        go_wp2_with (refine wpList_store_row rfl 23 (.tmp 111) (.tmp 109) rfl rfl bn 0 (.int .u64 nx) rfl rfl 34 _ HN6.out Ybaf.size23 rfl rfl (by simp [nodeRow]) ?_)
        intro w7 r7 g7
        have HN7 : Hid (RowAt w7 bn 34 (parRow nx true so N c kb nb i psz)) := r7
        have HS7 := Hid.mk' (HS6.out.node g7 HP.out.hbn HN6.out)
        have HF7 : Hid (Fr b [bp, bt, bn] wr w7) := HF6.out.grown g7 HST.out.rows.b (fun k hk => by cases hk; exact .inr (by simp))
        clear r7 g7
        go_wp2_with (refine wpList_store_row rfl 4 (.tmp 113) (.const (.bool false)) rfl rfl bn 1 (.bool false) rfl rfl 34 _ HN7.out Ybaf.size4 rfl rfl (by simp [parRow, nodeRow]) ?_)
        intro w8 r8 g8
        have HEND : Hid (bPost B0 w b bp bt bn kb nb pid so N c i S Q base (.returned (.tuple #[.int .u64 nx, .nilIface])) w8) := by
          have hf8 : Fr b [bp, bt, bn] wr w8 := HF7.out.grown g8 HST.out.rows.b (fun k hk => by cases hk; exact .inr (by simp))
          refine ⟨HFT.out w8 hf8, .inr (.inr ⟨HW.out.fits, by rw [← HPZ.out]; exact hsz, by rw [HNX.out], ?_, ?_, ?_⟩)⟩
          · rw [← HNX.out, ← HXS.out]
            exact ⟨_, vi', vb', vf', HS7.out.node g8 HP.out.hbn HN7.out, by simp [HPG.out]⟩
          · rw [← HNX.out, ← HPZ.out]
            exact r8
          · exact hf8.row HW.out.kids HP.out.hkb (by
              simp only [List.mem_cons, List.not_mem_nil, or_false, not_or]
              exact ⟨TypeAt.ne HW.out.kids.type HST.out.pg.type (by decide), TypeAt.ne HW.out.kids.type HST.out.tr.type (by decide), TypeAt.ne HW.out.kids.type HPAR.out.type (by decide)⟩)
        clear r8 g8
        go_wp2
        go_ret2
        exact HEND.out
end Go.Proofs.YbulkciosFmt
