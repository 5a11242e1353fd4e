/-
  'write' (6) of a node without loaded kids.
-/
import Derived.Test.YbulkciosFmtErr
namespace Go.Proofs.YbulkciosFmt
open Go.RowKit Go.Extern.Stop Go.Stop Go.Extern

set_option maxRecDepth 100000 in
/-- A node that is not dirty. -/
theorem write6_clean (w : World) (bt bn : Nat) (id : Int) (leaf : Bool) (ks vs kids nodes : Value) (bytes : Int) (hn : RowAt w bn 34 (nodeRow id false leaf ks vs kids nodes bytes)) :
    Calls Ybaf.prog 6 #[.pointer (some ⟨bt, 0, none⟩), .pointer (some ⟨bn, 0, none⟩)] w fun e w' => e = .returned (.tuple #[.int .u64 id, .nilIface]) ∧ w' = w := by
  have c0 : w.cell? ⟨bn, 0, none⟩ = some (.int .u64 id) := hn.cell 0
  have c1 : w.cell? ⟨bn, 1, none⟩ = some (.bool false) := hn.cell 1
  clear hn
  go_enter Ybaf.func6, Ybaf.ntmps6
  go_wp2
  go_ret2
  exact ⟨rfl, rfl⟩

theorem Ybaf.mAlloc (w : World) (p : Addr) : (method 252 35 (.pointer (some p)) "Alloc").run Ybaf.prog w = .ok (74, .pointer (some p)) w := by kernel_rfl
theorem Ybaf.mWrite (w : World) (p : Addr) : (method 252 35 (.pointer (some p)) "Write").run Ybaf.prog w = .ok (75, .pointer (some p)) w := by kernel_rfl

theorem St.alloc {w w' : World} {b bp bt : Nat} {next next' : Int} {fa fw : Bool} {allocs allocs' : Nat} {ids freed : List Int} {pages : List (Nat × List Int)} {vi vb vf : Value} (h : St w b bp bt next fa fw allocs ids pages freed vi vb vf)
    (hr : RowAt w' bp 37 (pgRow next' fa fw allocs' vi vb)) (hg : w.grownBy w' (some bp)) : St w' b bp bt next' fa fw allocs' ids pages freed vi vb vf :=
  ⟨hr, h.tr.grown hg (fun e => by cases e; exact RowAt.ne h.pg h.tr (by decide) rfl), h.rows.low hg h.bp, h.bp, h.bt⟩

theorem St.node {w w' : World} {b bp bt bn : Nat} {next : Int} {fa fw : Bool} {allocs : Nat} {ids freed : List Int} {pages : List (Nat × List Int)} {vi vb vf : Value} (h : St w b bp bt next fa fw allocs ids pages freed vi vb vf)
    (hg : w.grownBy w' (some bn)) (hbn : bn < b) {row : List Value} (hn : RowAt w bn 34 row) : St w' b bp bt next fa fw allocs ids pages freed vi vb vf :=
  ⟨h.pg.grown hg (fun e => by cases e; exact RowAt.ne h.pg hn (by decide) rfl), h.tr.grown hg (fun e => by cases e; exact RowAt.ne h.tr hn (by decide) rfl), h.rows.low hg hbn, h.bp, h.bt⟩

theorem grown_of_below {w w' : World} (h : Below w.heap.size w w') : w.grownBy w' none := ⟨h.os, h.tape, h.output, h.size, fun k hk _ => h.block k hk⟩

set_option maxRecDepth 100000 in
/-- No page is to be had. -/
theorem write6_noalloc (w : World) (b bp bt bn : Nat) (next : Int) (fw : Bool) (allocs : Nat) (ids : List Int) (pages : List (Nat × List Int)) (freed : List Int) (vi vb vf : Value) (h : St w b bp bt next true fw allocs ids pages freed vi vb vf) (ha : allocs ≤ 1000)
    (id : Int) (leaf : Bool) (ks vs kids : Value) (bytes : Int) (hbn : bn < b) (hn : RowAt w bn 34 (nodeRow id true leaf ks vs kids (.slice none 0 0) bytes)) :
    Calls Ybaf.prog 6 #[.pointer (some ⟨bt, 0, none⟩), .pointer (some ⟨bn, 0, none⟩)] w fun e w' => (∃ q, e = .returned (.tuple #[.int .u64 0, .iface 97 q])) ∧
      St w' b bp bt next true fw (allocs + 1) ids pages freed vi vb vf ∧ RowAt w' bn 34 (nodeRow id true leaf ks vs kids (.slice none 0 0) bytes) ∧ Fr b [bp, bt, bn] w w' := by
  have c1 : w.cell? ⟨bn, 1, none⟩ = some (.bool true) := hn.cell 1
  have c8 : w.cell? ⟨bn, 8, none⟩ = some (.slice none 0 0) := hn.cell 8
  have t0 : w.cell? ⟨bt, 0, none⟩ = some (.iface 35 (.pointer (some ⟨bp, 0, none⟩))) := h.tr.cell 0
  have HH := Hid.mk' h
  have HN := Hid.mk' hn
  clear h hn
  go_enter Ybaf.func6, Ybaf.ntmps6
  go_wp2_with fail
  go_loopg [28] 1 (fun gk t28 wr => t28 = .int .i64 0 ∧ wr = w)
  case atStart => exact ⟨rfl, rfl⟩
  case round =>
    obtain ⟨rfl, rfl⟩ := hrel
    have hm := Ybaf.mAlloc
    go_wp2_with fail
    refine (alloc74 wr bp next true fw allocs vi vb HH.out.pg ha).mono ?_
    rintro e w1 ⟨he, hr, hg⟩
    have HS1 : Hid (St w1 b bp bt next true fw (allocs + 1) ids pages freed vi vb vf) := HH.out.alloc hr hg
    have HF1 : Hid (Fr b [bp, bt, bn] wr w1) := (Fr.refl _ _ _).grown hg HH.out.rows.b (fun k hk => by cases hk; exact .inr (by simp))
    have HN1 : Hid (RowAt w1 bn 34 (nodeRow id true leaf ks vs kids (.slice none 0 0) bytes)) := HN.out.grown hg (fun e => by cases e; exact RowAt.ne HH.out.pg HN.out (by decide) rfl)
    clear hr hg
    obtain ⟨q, rfl⟩ : ∃ q, e = .returned (.tuple #[.int .u64 0, .iface 97 q]) := he
    go_wp2
    go_ret2
    exact ⟨⟨q, rfl⟩, HS1.out, HN1.out, HF1.out⟩

set_option maxRecDepth 100000 in
set_option maxHeartbeats 400000 in
/-- The node does not fit, or was miscounted. -/
theorem write6_big (F : Interp) (w : World) (hF : F.answers w.tape) (b bp bt bn : Nat) (next : Int) (fw : Bool) (allocs : Nat) (ids : List Int) (pages : List (Nat × List Int)) (freed : List Int) (vi vb vf : Value) (h : St w b bp bt next false fw allocs ids pages freed vi vb vf) (ha : allocs ≤ 1000)
    (id : Int) (leaf : Bool) (ks vs kids : Value) (bytes : Int) (hbn : bn < b) (hn : RowAt w bn 34 (nodeRow id true leaf ks vs kids (.slice none 0 0) bytes))
    (sz : Nat) (hsz : sz < 9223372036854775808) (hbig : 4092 < sz ∨ (sz : Int) ≠ bytes)
    (hsize : ∀ w', Fr b [bp] w w' → RowAt w' bn 34 (nodeRow id true leaf ks vs kids (.slice none 0 0) bytes) → Calls Ybaf.prog 11 #[.pointer (some ⟨bn, 0, none⟩)] w' fun e w'' => e = .returned (.int .i64 sz) ∧ ∃ m, w'' = w'.drewN m) :
    Calls Ybaf.prog 6 #[.pointer (some ⟨bt, 0, none⟩), .pointer (some ⟨bn, 0, none⟩)] w fun e w' => (∃ q, e = .returned (.tuple #[.int .u64 0, .iface 97 q])) ∧
      St w' b bp bt (inc next) false fw (allocs + 1) ids pages freed vi vb vf ∧ RowAt w' bn 34 (nodeRow id true leaf ks vs kids (.slice none 0 0) bytes) ∧ Fr b [bp, bt, bn] w w' := by
  have c1 : w.cell? ⟨bn, 1, none⟩ = some (.bool true) := hn.cell 1
  have c8 : w.cell? ⟨bn, 8, none⟩ = some (.slice none 0 0) := hn.cell 8
  have t0 : w.cell? ⟨bt, 0, none⟩ = some (.iface 35 (.pointer (some ⟨bp, 0, none⟩))) := h.tr.cell 0
  have HH := Hid.mk' h
  have HN := Hid.mk' hn
  have HFF := Hid.mk' hF
  have HSZ := Hid.mk' hsize
  clear h hn hF hsize
  go_enter Ybaf.func6, Ybaf.ntmps6
  go_wp2_with fail
  go_loopg [28] 1 (fun gk t28 wr => t28 = .int .i64 0 ∧ wr = w)
  case atStart => exact ⟨rfl, rfl⟩
  case round =>
    obtain ⟨rfl, rfl⟩ := hrel
    have hm := Ybaf.mAlloc
    go_wp2_with fail
    refine (alloc74 wr bp next false fw allocs vi vb HH.out.pg ha).mono ?_
    rintro e w1 ⟨he, hr, hg⟩
    have HS1 : Hid (St w1 b bp bt (inc next) false fw (allocs + 1) ids pages freed vi vb vf) := HH.out.alloc hr hg
    have HF0 : Hid (Fr b [bp] wr w1) := (Fr.refl _ _ _).grown hg HH.out.rows.b (fun k hk => by cases hk; exact .inr (by simp))
    have HN1 : Hid (RowAt w1 bn 34 (nodeRow id true leaf ks vs kids (.slice none 0 0) bytes)) := HN.out.grown hg (fun e => by cases e; exact RowAt.ne HH.out.pg HN.out (by decide) rfl)
    clear hr hg
    obtain rfl : e = .returned (.tuple #[.int .u64 (inc next), .nilIface]) := he
    clear c1 c8 t0
    go_wp2_with fail
    refine (HSZ.out w1 HF0.out HN1.out).mono ?_
    rintro e w2 ⟨rfl, m, rfl⟩
    have c9 : (w1.drewN m).cell? ⟨bn, 9, none⟩ = some (.int .i64 bytes) := HN1.out.cell 9
    have HS2 := Hid.mk' (HS1.out.drewN m)
    have HN2 : Hid (RowAt (w1.drewN m) bn 34 (nodeRow id true leaf ks vs kids (.slice none 0 0) bytes)) := HN1.out
    have HF2 : Hid (Fr b [bp] wr (w1.drewN m)) := ⟨HF0.out.os, HF0.out.tape, HF0.out.output, HF0.out.size, HF0.out.block⟩
    clear HS1 HF0 HN1
    generalize w1.drewN m = w2 at *
    have hT : F.answers (w2.alloc (.cells #[.iface 3 (.int .i64 sz), .iface 3 (.int .i64 bytes), .iface 3 (.int .i64 4092)] 20)).tape := by
      show F.answers w2.tape
      rw [HF2.out.tape]; exact HFF.out
    have HT := Hid.mk' hT
    clear hT
    have RN : Hid (RowAt (w2.alloc (.cells #[.iface 3 (.int .i64 sz), .iface 3 (.int .i64 bytes), .iface 3 (.int .i64 4092)] 20)) w2.heap.size 20 [.iface 3 (.int .i64 sz), .iface 3 (.int .i64 bytes), .iface 3 (.int .i64 4092)]) := heap_alloc_new w2 _
    by_cases hb : 4092 < sz
    · clear hbig
      go_wp2_with fail
      refine (errorf12 F sz bytes 4092 w2.heap.size _ HT.out (RN.out.cell 0) (RN.out.cell 1) (RN.out.cell 2)).mono ?_
      rintro e w3 ⟨⟨q, rfl⟩, hg3⟩
      have hg4 : w2.grownBy w3 none := grown_two (grown_alloc _ _) hg3 (.inl rfl) (.inl rfl)
      have HS3 := Hid.mk' (HS2.out.more hg4)
      have HN3 : Hid (RowAt w3 bn 34 (nodeRow id true leaf ks vs kids (.slice none 0 0) bytes)) := HN2.out.grown hg4 (by simp)
      have HF3 : Hid (Fr b [bp, bt, bn] wr w3) := (HF2.out.mono (by simp)).grown hg4 HH.out.rows.b (fun k hk => nomatch hk)
      clear hg3 hg4
      go_wp2
      go_ret2
      exact ⟨⟨q, rfl⟩, HS3.out, HN3.out, HF3.out⟩
    · have hne : ((sz : Int) != bytes) = true := by
        have := hbig.resolve_left hb
        simpa using this
      clear hbig
      go_wp2_with fail
      refine (errorf12 F sz bytes 4092 w2.heap.size _ HT.out (RN.out.cell 0) (RN.out.cell 1) (RN.out.cell 2)).mono ?_
      rintro e w3 ⟨⟨q, rfl⟩, hg3⟩
      have hg4 : w2.grownBy w3 none := grown_two (grown_alloc _ _) hg3 (.inl rfl) (.inl rfl)
      have HS3 := Hid.mk' (HS2.out.more hg4)
      have HN3 : Hid (RowAt w3 bn 34 (nodeRow id true leaf ks vs kids (.slice none 0 0) bytes)) := HN2.out.grown hg4 (by simp)
      have HF3 : Hid (Fr b [bp, bt, bn] wr w3) := (HF2.out.mono (by simp)).grown hg4 HH.out.rows.b (fun k hk => nomatch hk)
      clear hg3 hg4
      go_wp2
      go_ret2
      exact ⟨⟨q, rfl⟩, HS3.out, HN3.out, HF3.out⟩

/-- What 'write' does to a node that fits. -/
def fitsPost (w : World) (b bp bt bn : Nat) (next : Int) (fw : Bool) (allocs : Nat) (ids : List Int) (pages : List (Nat × List Int)) (freed : List Int) (id : Int) (leaf : Bool) (ks vs kids nodes : Value) (sz : Nat) (xs : List Int) (e : Ending) (w' : World) : Prop :=
  ∃ g vi' vb' vf', Fr b [bp, bt, bn] w w' ∧ (if fw then
      (∃ q, e = .returned (.tuple #[.int .u64 0, .iface 97 q])) ∧ St w' b bp bt (inc next) false fw (allocs + 1) (ids ++ [inc next]) (pages ++ [(g, xs)]) freed vi' vb' vf' ∧ RowAt w' bn 34 (nodeRow id true leaf ks vs kids nodes sz)
      else e = .returned (.tuple #[.int .u64 (inc next), .nilIface]) ∧ St w' b bp bt (inc next) false fw (allocs + 1) (ids ++ [inc next]) (pages ++ [(g, xs)]) (freed ++ one id) vi' vb' vf' ∧ RowAt w' bn 34 (nodeRow (inc next) false leaf ks vs kids nodes sz))

set_option maxRecDepth 100000 in
set_option maxHeartbeats 400000 in
/-- The node fits. -/
theorem write6_fits (w : World) (b bp bt bn : Nat) (next : Int) (fw : Bool) (allocs : Nat) (ids : List Int) (pages : List (Nat × List Int)) (freed : List Int) (vi vb vf : Value) (h : St w b bp bt next false fw allocs ids pages freed vi vb vf) (ha : allocs ≤ 1000)
    (hl1 : ids.length ≤ 1000) (hl2 : pages.length ≤ 1000) (hl3 : freed.length ≤ 1000)
    (id : Int) (leaf : Bool) (ks vs kids : Value) (sz : Nat) (hsz : sz ≤ 4092) (hbn : bn < b) (hn : RowAt w bn 34 (nodeRow id true leaf ks vs kids (.slice none 0 0) sz)) (xs : List Int)
    (hsize : ∀ w', Fr b [bp] w w' → RowAt w' bn 34 (nodeRow id true leaf ks vs kids (.slice none 0 0) sz) → Calls Ybaf.prog 11 #[.pointer (some ⟨bn, 0, none⟩)] w' fun e w'' => e = .returned (.int .i64 sz) ∧ ∃ m, w'' = w'.drewN m)
    (henc : ∀ w', Fr b [bp] w w' → RowAt w' bn 34 (nodeRow id true leaf ks vs kids (.slice none 0 0) sz) → Calls Ybaf.prog 14 #[.pointer (some ⟨bn, 0, none⟩)] w' fun e w'' => e = .returned (.slice (some ⟨w'.heap.size, 0, none⟩) 4092 4092) ∧ PRow w'' w'.heap.size xs ∧ Below w'.heap.size w' w'') :
    Calls Ybaf.prog 6 #[.pointer (some ⟨bt, 0, none⟩), .pointer (some ⟨bn, 0, none⟩)] w (fitsPost w b bp bt bn next fw allocs ids pages freed id leaf ks vs kids (.slice none 0 0) sz xs) := by
  have c1 : w.cell? ⟨bn, 1, none⟩ = some (.bool true) := hn.cell 1
  have c8 : w.cell? ⟨bn, 8, none⟩ = some (.slice none 0 0) := hn.cell 8
  have t0 : w.cell? ⟨bt, 0, none⟩ = some (.iface 35 (.pointer (some ⟨bp, 0, none⟩))) := h.tr.cell 0
  have HH := Hid.mk' h
  have HN := Hid.mk' hn
  have HSZ := Hid.mk' hsize
  have HEN := Hid.mk' henc
  clear h hn hsize henc
  go_enter Ybaf.func6, Ybaf.ntmps6
  go_wp2_with fail
  go_loopg [28] 1 (fun gk t28 wr => t28 = .int .i64 0 ∧ wr = w)
  case atStart => exact ⟨rfl, rfl⟩
  case round =>
    obtain ⟨rfl, rfl⟩ := hrel
    have hm := Ybaf.mAlloc
    have hmw := Ybaf.mWrite
    go_wp2_with fail
    refine (alloc74 wr bp next false fw allocs vi vb HH.out.pg ha).mono ?_
    rintro e w1 ⟨he, hr, hg⟩
    have HS1 : Hid (St w1 b bp bt (inc next) false fw (allocs + 1) ids pages freed vi vb vf) := HH.out.alloc hr hg
    have HF0 : Hid (Fr b [bp] wr w1) := (Fr.refl _ _ _).grown hg HH.out.rows.b (fun k hk => by cases hk; exact .inr (by simp))
    have HN1 : Hid (RowAt w1 bn 34 (nodeRow id true leaf ks vs kids (.slice none 0 0) sz)) := HN.out.grown hg (fun e => by cases e; exact RowAt.ne HH.out.pg HN.out (by decide) rfl)
    clear hr hg
    obtain rfl : e = .returned (.tuple #[.int .u64 (inc next), .nilIface]) := he
    obtain ⟨nx, HNX⟩ : ∃ nx, Hid (nx = inc next) := ⟨_, rfl⟩
    rw [← HNX.out] at HS1 ⊢
    clear c1 c8 t0
    go_wp2_with fail
    refine (HSZ.out w1 HF0.out HN1.out).mono ?_
    rintro e w2 ⟨rfl, m, rfl⟩
    have c9 : (w1.drewN m).cell? ⟨bn, 9, none⟩ = some (.int .i64 sz) := HN1.out.cell 9
    have HS2 := Hid.mk' (HS1.out.drewN m)
    have HN2 : Hid (RowAt (w1.drewN m) bn 34 (nodeRow id true leaf ks vs kids (.slice none 0 0) sz)) := HN1.out
    have HF2 : Hid (Fr b [bp] wr (w1.drewN m)) := ⟨HF0.out.os, HF0.out.tape, HF0.out.output, HF0.out.size, HF0.out.block⟩
    clear HS1 HF0 HN1
    generalize w1.drewN m = w2 at *
    have t1 : w2.cell? ⟨bt, 1, none⟩ = some (.pointer none) := HS2.out.tr.cell 1
    go_wp2_with fail
    refine (forget13 w2 nx).mono ?_
    rintro e w3 ⟨rfl, rfl⟩
    clear c9 t1
    have t0 : w3.cell? ⟨bt, 0, none⟩ = some (.iface 35 (.pointer (some ⟨bp, 0, none⟩))) := HS2.out.tr.cell 0
    cases fw with
    | true =>
      go_wp2_with fail
      go_region_held3 (fun w' => w'.cell? ⟨bt, 0, none⟩ = some (.iface 35 (.pointer (some ⟨bp, 0, none⟩)))) (first | exact t0 | assumption)
        (first
          | (go_at_call 14; refine (HEN.out w3.drew ⟨HF2.out.os, HF2.out.tape, HF2.out.output, HF2.out.size, HF2.out.block⟩ HN2.out).mono ?_; rintro e w4 ⟨rfl, hp4, hb4⟩; have HS4 := Hid.mk' (HS2.out.drew.more (grown_of_below hb4)); have s0 : w4.cell? ⟨bt, 0, none⟩ = some (.iface 35 (.pointer (some ⟨bp, 0, none⟩))) := HS4.out.tr.cell 0)
          | (go_at_call 75; refine (write75 w4 b bp bt nx false true (allocs + 1) ids pages freed vi vb vf HS4.out nx w3.heap.size xs HS2.out.rows.b hp4 hl1 hl2).mono ?_; rintro e w5 ⟨⟨q, rfl⟩, ⟨vi', vb', hs5⟩, hf5⟩; have s5 : w5.cell? ⟨bt, 0, none⟩ = some (.iface 35 (.pointer (some ⟨bp, 0, none⟩))) := hs5.tr.cell 0))
      have HS5 := Hid.mk' hs5
      have hf4 : Fr b [bp] w3 w4 := ⟨hb4.os, hb4.tape, hb4.output, hb4.size, fun k hk _ => hb4.block k (Nat.lt_of_lt_of_le hk HS2.out.rows.b)⟩
      have HF5 : Hid (Fr b [bp] wr w5) := (HF2.out.trans hf4).trans hf5
      have HN5 : Hid (RowAt w5 bn 34 (nodeRow id true leaf ks vs kids (.slice none 0 0) sz)) := (hf4.trans hf5).row HN2.out hbn (fun e => by
        have := RowAt.ne HS2.out.pg HN2.out (by decide)
        simp at e
        exact this e.symm)
      clear hs5 hf5 hf4 hb4 s0 s5 t0 hp4
      go_wp2
      go_ret2
      exact ⟨w3.heap.size, vi', vb', vf, HF5.out.mono (by simp), ⟨q, rfl⟩, by rw [← HNX.out]; exact HS5.out, HN5.out⟩
    | false =>
      go_wp2_with fail
      go_region_held3 (fun w' => w'.cell? ⟨bt, 0, none⟩ = some (.iface 35 (.pointer (some ⟨bp, 0, none⟩)))) (first | exact t0 | assumption)
        (first
          | (go_at_call 14; refine (HEN.out w3.drew ⟨HF2.out.os, HF2.out.tape, HF2.out.output, HF2.out.size, HF2.out.block⟩ HN2.out).mono ?_; rintro e w4 ⟨rfl, hp4, hb4⟩; have HS4 := Hid.mk' (HS2.out.drew.more (grown_of_below hb4)); have s0 : w4.cell? ⟨bt, 0, none⟩ = some (.iface 35 (.pointer (some ⟨bp, 0, none⟩))) := HS4.out.tr.cell 0)
          | (go_at_call 75; refine (write75 w4 b bp bt nx false false (allocs + 1) ids pages freed vi vb vf HS4.out nx w3.heap.size xs HS2.out.rows.b hp4 hl1 hl2).mono ?_; rintro e w5 ⟨rfl, ⟨vi', vb', hs5⟩, hf5⟩; have s5 : w5.cell? ⟨bt, 0, none⟩ = some (.iface 35 (.pointer (some ⟨bp, 0, none⟩))) := hs5.tr.cell 0))
      have HS5 := Hid.mk' hs5
      have hf4 : Fr b [bp] w3 w4 := ⟨hb4.os, hb4.tape, hb4.output, hb4.size, fun k hk _ => hb4.block k (Nat.lt_of_lt_of_le hk HS2.out.rows.b)⟩
      have HF5 : Hid (Fr b [bp] wr w5) := (HF2.out.trans hf4).trans hf5
      have HN5 : Hid (RowAt w5 bn 34 (nodeRow id true leaf ks vs kids (.slice none 0 0) sz)) := (hf4.trans hf5).row HN2.out hbn (fun e => by
        have := RowAt.ne HS2.out.pg HN2.out (by decide)
        simp at e
        exact this e.symm)
      clear hs5 hf5 hf4 hb4 s0 s5 t0 hp4
      go_wp2_with fail
      refine (drop15 w5 b bp bt bn nx false false (allocs + 1) (ids ++ [nx]) (pages ++ [(w3.heap.size, xs)]) freed vi' vb' vf HS5.out id true leaf ks vs kids (.slice none 0 0) sz hbn HN5.out hl3).mono ?_
      rintro e w6 ⟨rfl, ⟨vf', hs6⟩, hn6, hf6⟩
      have HS6 := Hid.mk' hs6
      have HN6 := Hid.mk' hn6
      have HF6 : Hid (Fr b [bp, bt, bn] wr w6) := (HF5.out.mono (by simp)).trans (hf6.mono (by simp))
      clear hs6 hn6 hf6
      go_wp2_with (refine wpList_store_row rfl 23 (.tmp 111) (.tmp 109) rfl rfl bn 0 (.int .u64 nx) rfl rfl 34 _ HN6.out Ybaf.size23 rfl rfl (by simp [nodeRow]) ?_)
      intro w7 r7 g7
      have HN7 : Hid (RowAt w7 bn 34 (nodeRow nx true leaf ks vs kids (.slice none 0 0) sz)) := r7
      have HS7 := Hid.mk' (HS6.out.node g7 hbn HN6.out)
      have HF7 : Hid (Fr b [bp, bt, bn] wr w7) := HF6.out.grown g7 HH.out.rows.b (fun k hk => by cases hk; exact .inr (by simp))
      clear r7 g7
      go_wp2_with (refine wpList_store_row rfl 4 (.tmp 113) (.const (.bool false)) rfl rfl bn 1 (.bool false) rfl rfl 34 _ HN7.out Ybaf.size4 rfl rfl (by simp [nodeRow]) ?_)
      intro w8 r8 g8
      have HN8 : Hid (RowAt w8 bn 34 (nodeRow nx false leaf ks vs kids (.slice none 0 0) sz)) := r8
      have HS8 := Hid.mk' (HS7.out.node g8 hbn HN7.out)
      have HF8 : Hid (Fr b [bp, bt, bn] wr w8) := HF7.out.grown g8 HH.out.rows.b (fun k hk => by cases hk; exact .inr (by simp))
      clear r8 g8
      go_wp2
      go_ret2
      refine ⟨w3.heap.size, vi', vb', vf', HF8.out, ?_⟩
      rw [← HNX.out]
      exact ⟨rfl, HS8.out, HN8.out⟩

end Go.Proofs.YbulkciosFmt
