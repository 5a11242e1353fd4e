/-
  'LawS4230CLeaf' (3).
-/
import Derived.Test.YbulkciosFmtPairs
namespace Go.Proofs.YbulkciosFmt
open Go.RowKit Go.Extern.Stop Go.Stop Go.Extern

/-- The pairs that came in. -/
structure PairsAt (w : World) (p off n : Nat) (K V : Nat → ByteArray) : Prop where
  k : ∀ i, i < n → w.cell? ⟨p, off + i * 2, none⟩ = some (.string (K i))
  v : ∀ i, i < n → w.cell? ⟨p, off + i * 2 + 1, none⟩ = some (.string (V i))
  ks : ∀ i, i < n → (K i).size ≤ 140737488355328
  vs : ∀ i, i < n → (V i).size ≤ 140737488355328

theorem made_row {w : World} {b0 B n : Nat} {e : TypeId} {xs : List Value} (h : w.ownsRow b0 e 1 (.slice (some ⟨B, 0, none⟩) n n) n xs) : ∃ cur, RowAt w B e cur ∧ cur.length = n := by
  obtain ⟨_, ⟨h, _⟩ | ⟨g', cap', cur, h, _, hg, _, _, hs, _⟩⟩ := h
  · cases h
  · cases h
    exact ⟨cur.toList, by unfold RowAt; simpa using hg, by simpa using hs⟩

/-- How far the two rows are filled. -/
structure Filled (w wr : World) (bk bv n k : Nat) (K V : Nat → List Int) : Prop where
  bel : Below w.heap.size w wr
  size : bv + 1 ≤ wr.heap.size
  kr : ∃ cur, RowAt wr bk 26 cur ∧ cur.length = n
  vr : ∃ cur, RowAt wr bv 26 cur ∧ cur.length = n
  ks : BufsIn (bv + 1) wr.heap.size wr bk k K
  vs : BufsIn (bv + 1) wr.heap.size wr bv k V

theorem Filled.drewN {w wr : World} {bk bv n k : Nat} {K V : Nat → List Int} (h : Filled w wr bk bv n k K V) (m : Nat) : Filled w (wr.drewN m) bk bv n k K V := ⟨belowN h.bel m, h.size, h.kr, h.vr, h.ks, h.vs⟩

theorem wrapI (x : Int) (h1 : -9223372036854775808 ≤ x) (h2 : x ≤ 9223372036854775807) : IntKind.i64.wrap x = x := by rw [IntKind.wrap_i64]; omega

theorem wrap3 (A x y : Nat) (hA : A ≤ 288230376151711744) (hx : x ≤ 140737488355328) (hy : y ≤ 140737488355328) : IntKind.i64.wrap ((A : Int) + IntKind.i64.wrap (IntKind.i64.wrap (4 + (x : Int)) + (y : Int))) = ((A + (4 + x + y) : Nat) : Int) := by
  rw [wrapI (4 + (x : Int)) (by omega) (by omega), wrapI (4 + (x : Int) + (y : Int)) (by omega) (by omega), wrapI _ (by omega) (by omega)]
  omega

theorem Filled.push {w wr w3 w4 w5 w6 : World} {bk bv n k p3 c3 p5 c5 : Nat} {K V : Nat → List Int} {q1 q2 : List Value} (h : Filled w wr bk bv n k K V) (hk : k < n) (hbk : bk = w.heap.size) (hbv : bk < bv)
    (b3 : ∀ i y, (K k)[i]? = some y → w3.cell? ⟨p3, i, none⟩ = some (.int .u8 y)) (e3 : p3 = wr.heap.size) (g3 : wr.grownBy w3 none) (s3 : wr.heap.size < w3.heap.size)
    (k3 : RowAt w3 bk 26 q1) (l1 : q1.length = n) (k4 : RowAt w4 bk 26 (q1.set k (.slice (some ⟨p3, 0, none⟩) (K k).length c3))) (g4 : w3.grownBy w4 (some bk))
    (b5 : ∀ i y, (V k)[i]? = some y → w5.cell? ⟨p5, i, none⟩ = some (.int .u8 y)) (e5 : p5 = w4.heap.size) (g5 : w4.grownBy w5 none) (s5 : w4.heap.size < w5.heap.size)
    (k5 : RowAt w5 bv 26 q2) (l2 : q2.length = n) (k6 : RowAt w6 bv 26 (q2.set k (.slice (some ⟨p5, 0, none⟩) (V k).length c5))) (g6 : w5.grownBy w6 (some bv)) : Filled w w6 bk bv n (k + 1) K V := by
  have hs := h.size
  have z3 := g3.size
  have z4 := g4.size
  have z5 := g5.size
  have z6 := g6.size
  subst e3 e5
  have hne : bk ≠ bv := by omega
  have bel : Below w.heap.size w w6 := (((h.bel.grown g3 h.bel.size (fun k hk => nomatch hk)).grown g4 (by omega) (fun k hk => by cases hk; omega)).grown g5 (by omega) (fun k hk => nomatch hk)).grown g6 (by omega) (fun k hk => by cases hk; omega)
  refine ⟨bel, by omega, ⟨_, (k4.grown g5 (by simp)).grown g6 (by simpa using hne), by simpa using l1⟩, ⟨_, k6, by simpa using l2⟩, ?_, ?_⟩
  · have a3 : BufsIn (bv + 1) w3.heap.size w3 bk k K := h.ks.grown g3 (by simp) (fun k hk => nomatch hk) (by omega)
    have a4 : BufsIn (bv + 1) w3.heap.size w4 bk (k + 1) K := a3.push (by omega) (by omega) g4 k3 k4 (by omega) s3 b3
    have a5 : BufsIn (bv + 1) w5.heap.size w5 bk (k + 1) K := a4.grown g5 (by simp) (fun k hk => nomatch hk) (by omega)
    exact a5.grown g6 (by simpa using hne) (fun k hk => by cases hk; omega) (by omega)
  · have a3 : BufsIn (bv + 1) w3.heap.size w3 bv k V := h.vs.grown g3 (by simp) (fun k hk => nomatch hk) (by omega)
    have a4 : BufsIn (bv + 1) w4.heap.size w4 bv k V := a3.grown g4 (by simpa using hne.symm) (fun k hk => by cases hk; omega) (by omega)
    have a5 : BufsIn (bv + 1) w5.heap.size w5 bv k V := a4.grown g5 (by simp) (fun k hk => nomatch hk) (by omega)
    have a6 : BufsIn (bv + 1) w5.heap.size w6 bv (k + 1) V := a5.push (by omega) (by omega) g6 k5 k6 (by omega) s5 b5
    exact fun j hj => by
      obtain ⟨p, c, l1, l2, x⟩ := a6 j hj
      exact ⟨p, c, l1, by omega, x⟩

/-- All is laid for the call of 'write'. -/
structure Ready (w w3 : World) (b bk bv hi bn bp bt n : Nat) (K V : Nat → List Int) (oldID : Int) (dirty : Bool) (base : Int) (fa fw : Bool) (bytes : Int) : Prop where
  bel : Below w.heap.size w w3
  lbn : w.heap.size ≤ bn
  lbp : w.heap.size ≤ bp
  lbt : w.heap.size ≤ bt
  hbn : hi ≤ bn
  hbp : hi ≤ bp
  hbt : hi ≤ bt
  hbk : bk < hi
  hbv : bv < hi
  nb : bn < b
  eb : b = w3.heap.size
  st : St w3 b bp bt base fa fw 0 [] [] [] (.slice none 0 0) (.slice none 0 0) (.slice none 0 0)
  nd : RowAt w3 bn 34 (nodeRow oldID dirty true (.slice (some ⟨bk, 0, none⟩) n n) (.slice (some ⟨bv, 0, none⟩) n n) (.slice none 0 0) (.slice none 0 0) bytes)
  ks : BufsIn (bv + 1) hi w3 bk n K
  vs : BufsIn (bv + 1) hi w3 bv n V
  nn : n ≤ 1024
  kl : ∀ j, j < n → (K j).length ≤ 140737488355328
  vl : ∀ j, j < n → (V j).length ≤ 140737488355328

theorem Ready.after {w w3 w4 : World} {b bk bv hi bn bp bt n : Nat} {K V : Nat → List Int} {oldID : Int} {dirty : Bool} {base : Int} {fa fw : Bool} {bytes : Int} (h : Ready w w3 b bk bv hi bn bp bt n K V oldID dirty base fa fw bytes) (hf : Fr b [bp, bt, bn] w3 w4) :
    Below w.heap.size w w4 ∧ Bufs w4 bk n K ∧ Bufs w4 bv n V := by
  have hb := h.eb
  have h0 := h.bel.size
  have h1 := h.hbn
  have h2 := h.hbp
  have h3 := h.hbt
  have h4 := h.hbk
  have h5 := h.hbv
  have h6 := h.nb
  have l1 := h.lbn
  have l2 := h.lbp
  have l3 := h.lbt
  refine ⟨⟨hf.os.trans h.bel.os, hf.tape.trans h.bel.tape, hf.output.trans h.bel.output, Nat.le_trans h.bel.size hf.size, fun k hk => (hf.block k (by omega) (by simp; omega)).trans (h.bel.block k hk)⟩, ?_, ?_⟩
  · exact (h.ks.fr hf (by omega) (by omega) (by simp; omega) (by simp; omega)).bufs
  · exact (h.vs.fr hf (by omega) (by omega) (by simp; omega) (by simp; omega)).bufs

theorem own_of_row {w : World} {bn : Nat} {id : Int} {dirty leaf : Bool} {ks vs kids nodes : Value} {bytes : Int} (h : RowAt w bn 34 (nodeRow id dirty leaf ks vs kids nodes bytes)) : Own w bn leaf ks vs := ⟨h.cell 2, h.cell 3, h.cell 5, h.cell 6⟩

theorem Ready.size {w w3 : World} {b bk bv hi bn bp bt n : Nat} {K V : Nat → List Int} {oldID : Int} {dirty : Bool} {base : Int} {fa fw : Bool} {bytes : Int} (h : Ready w w3 b bk bv hi bn bp bt n K V oldID dirty base fa fw bytes) (sz : Nat) (hsz : sz = lsz K V n) (kids nodes : Value) (d : Bool) (byt : Int) :
    ∀ w', Fr b [bp] w3 w' → RowAt w' bn 34 (nodeRow oldID d true (.slice (some ⟨bk, 0, none⟩) n n) (.slice (some ⟨bv, 0, none⟩) n n) kids nodes byt) → Calls Ybaf.prog 11 #[.pointer (some ⟨bn, 0, none⟩)] w' fun e w'' => e = .returned (.int .i64 sz) ∧ ∃ m, w'' = w'.drewN m := by
  intro w' hf hr
  obtain ⟨_, k1, k2⟩ := h.after (hf.mono (by simp))
  rw [hsz]
  exact size11 w' bn bk bv n n n K V (own_of_row hr) h.nn k1 k2 h.kl h.vl

theorem Ready.enc {w w3 : World} {b bk bv hi bn bp bt n : Nat} {K V : Nat → List Int} {oldID : Int} {dirty : Bool} {base : Int} {fa fw : Bool} {bytes : Int} (h : Ready w w3 b bk bv hi bn bp bt n K V oldID dirty base fa fw bytes) (hsz : lsz K V n ≤ 4092) (kids nodes : Value) (d : Bool) (byt : Int) :
    ∀ w', Fr b [bp] w3 w' → RowAt w' bn 34 (nodeRow oldID d true (.slice (some ⟨bk, 0, none⟩) n n) (.slice (some ⟨bv, 0, none⟩) n n) kids nodes byt) → Calls Ybaf.prog 14 #[.pointer (some ⟨bn, 0, none⟩)] w' fun e w'' => e = .returned (.slice (some ⟨w'.heap.size, 0, none⟩) 4092 4092) ∧ PRow w'' w'.heap.size (lbytes K V n n) ∧ Below w'.heap.size w' w'' := by
  intro w' hf hr
  obtain ⟨_, k1, k2⟩ := h.after (hf.mono (by simp))
  exact encode14 w' bn bk bv n n n K V (own_of_row hr) h.nn k1 k2 hsz

theorem new5' (w : World) (bp bt : Nat) (hbt : bt = w.heap.size) : Calls Ybaf.prog 5 #[.iface 35 (.pointer (some ⟨bp, 0, none⟩)), .int .u64 0, .pointer none] w fun e w' => e = .returned (.pointer (some ⟨bt, 0, none⟩)) ∧ RowAt w' bt 48 (trRow bp (.slice none 0 0)) ∧ w.grownBy w' none := by
  subst hbt
  exact new5 w bp

theorem ready_of {w wr w3 : World} {bk bv k : Nat} {K V : Nat → List Int} {oldID : Int} {dirty : Bool} {base : Int} {fa fw : Bool} {bytes : Int} (h : Filled w wr bk bv k k K V) (hn : k ≤ 1024) (hK : ∀ j, j < k → (K j).length ≤ 140737488355328) (hV : ∀ j, j < k → (V j).length ≤ 140737488355328) (hbkv : bk < bv)
    (r3 : RowAt w3 (wr.heap.size + 1 + 1) 48 (trRow (wr.heap.size + 1) (.slice none 0 0)))
    (g3 : ((wr.alloc (.cells #[.int .u64 oldID, .bool dirty, .bool true, .slice none 0 0, .slice none 0 0, .slice (some ⟨bk, 0, none⟩) k k, .slice (some ⟨bv, 0, none⟩) k k, .slice none 0 0, .slice none 0 0, .int .i64 bytes] 34)).alloc (.cells #[.int .u64 base, .bool fa, .bool fw, .int .i64 0, .slice none 0 0, .slice none 0 0, .int .i64 0] 37)).grownBy w3 none) :
    Ready w w3 w3.heap.size bk bv wr.heap.size wr.heap.size (wr.heap.size + 1) (wr.heap.size + 1 + 1) k K V oldID dirty base fa fw bytes := by
  have gN : wr.grownBy (wr.alloc (.cells #[.int .u64 oldID, .bool dirty, .bool true, .slice none 0 0, .slice none 0 0, .slice (some ⟨bk, 0, none⟩) k k, .slice (some ⟨bv, 0, none⟩) k k, .slice none 0 0, .slice none 0 0, .int .i64 bytes] 34)) none := grown_alloc _ _
  have rN : RowAt (wr.alloc (.cells #[.int .u64 oldID, .bool dirty, .bool true, .slice none 0 0, .slice none 0 0, .slice (some ⟨bk, 0, none⟩) k k, .slice (some ⟨bv, 0, none⟩) k k, .slice none 0 0, .slice none 0 0, .int .i64 bytes] 34)) wr.heap.size 34 (nodeRow oldID dirty true (.slice (some ⟨bk, 0, none⟩) k k) (.slice (some ⟨bv, 0, none⟩) k k) (.slice none 0 0) (.slice none 0 0) bytes) := heap_alloc_new wr _
  have sN : (wr.alloc (.cells #[.int .u64 oldID, .bool dirty, .bool true, .slice none 0 0, .slice none 0 0, .slice (some ⟨bk, 0, none⟩) k k, .slice (some ⟨bv, 0, none⟩) k k, .slice none 0 0, .slice none 0 0, .int .i64 bytes] 34)).heap.size = wr.heap.size + 1 := by simp
  generalize wr.alloc (.cells #[.int .u64 oldID, .bool dirty, .bool true, .slice none 0 0, .slice none 0 0, .slice (some ⟨bk, 0, none⟩) k k, .slice (some ⟨bv, 0, none⟩) k k, .slice none 0 0, .slice none 0 0, .int .i64 bytes] 34) = wN at *
  have gP := grown_alloc wN (.cells #[.int .u64 base, .bool fa, .bool fw, .int .i64 0, .slice none 0 0, .slice none 0 0, .int .i64 0] 37)
  have rP : RowAt (wN.alloc (.cells #[.int .u64 base, .bool fa, .bool fw, .int .i64 0, .slice none 0 0, .slice none 0 0, .int .i64 0] 37)) wN.heap.size 37 (pgRow base fa fw 0 (.slice none 0 0) (.slice none 0 0)) := heap_alloc_new wN _
  generalize wN.alloc (.cells #[.int .u64 base, .bool fa, .bool fw, .int .i64 0, .slice none 0 0, .slice none 0 0, .int .i64 0] 37) = wP at *
  rw [sN] at rP
  have gg : wr.grownBy w3 none := grown_two gN (grown_two gP g3 (.inl rfl) (.inl rfl)) (.inl rfl) (.inl rfl)
  have lt3 := r3.lt
  have z := h.bel.size
  have z2 := h.size
  refine ⟨h.bel.grown gg h.bel.size (fun k hk => nomatch hk), z, by omega, by omega, by omega, by omega, by omega, by omega, by omega, by omega, rfl, ?_, (rN.grown gP (by simp)).grown g3 (by simp), ?_, ?_, hn, hK, hV⟩
  · exact ⟨rP.grown g3 (by simp), r3, ⟨World.ownsRow_nil _ _ _ _, World.ownsRow_nil _ _ _ _, World.ownsRow_nil _ _ _ _, .inl rfl, fun p hp => by simp at hp, Nat.le_refl _⟩, by omega, lt3⟩
  · exact h.ks.grown gg (by simp) (fun k hk => nomatch hk) (Nat.le_refl _)
  · exact h.vs.grown gg (by simp) (fun k hk => nomatch hk) (Nat.le_refl _)

theorem own_shape {w : World} {b e : Nat} {v : Value} {n : Nat} {xs : List Value} (h : w.ownsRow b e 1 v n xs) : ∃ a c, v = .slice a n c := by
  obtain ⟨_, ⟨rfl, rfl⟩ | ⟨g', cap, c, rfl, _⟩⟩ := h
  · exact ⟨_, _, rfl⟩
  · exact ⟨_, _, rfl⟩

theorem own_one {w : World} {b e : Nat} {v x : Value} (h : w.ownsRow b e 1 v 1 [x]) : ∃ g c, v = .slice (some ⟨g, 0, none⟩) 1 c ∧ w.cell? ⟨g, 0, none⟩ = some x := by
  obtain ⟨g, c, rfl⟩ := own_slice (n := 0) h
  refine ⟨g, c, rfl, ?_⟩
  have := h.cells (g := g) rfl 0 x rfl
  simpa [Addr.add] using this

set_option maxRecDepth 100000 in
set_option maxHeartbeats 8000000 in
theorem leaf3 (F : Interp) (w : World) (hF : F.answers w.tape) (ao : Option Addr) (p off n cap : Nat) (K V : Nat → ByteArray) (hao : 0 < n → ao = some ⟨p, off, none⟩) (hP : PairsAt w p off n K V) (oldID : Int) (dirty : Bool) (base : Int) (fa fw : Bool) (mis : Int)
    (hm1 : -128 ≤ mis) (hm2 : mis ≤ 127) (hnmax : n ≤ 9223372036854775807) :
    Calls Ybaf.prog 3 #[.slice ao n cap, .int .u64 oldID, .bool dirty, .int .u64 base, .bool fa, .bool fw, .int .i8 mis] w fun e w' => e = .returned (.bool true) ∧ Below w.heap.size w w' := by
  by_cases hbig : 1024 < n
  · go_enter Ybaf.func3, Ybaf.ntmps3
    go_wp2
    go_ret
    exact ⟨rfl, Below.refl _ _⟩
  · obtain ⟨i26, hj, hy0, hy1, hy2⟩ := info_parts Ybaf.info26
    have hn : n ≤ 1024 := by omega
    clear hbig hnmax
    obtain ⟨K', HK'⟩ : ∃ K' : Nat → List Int, Hid (K' = fun i => bs (K i)) := ⟨_, rfl⟩
    obtain ⟨V', HV'⟩ : ∃ V' : Nat → List Int, Hid (V' = fun i => bs (V i)) := ⟨_, rfl⟩
    have HP := Hid.mk' hP
    have HFF := Hid.mk' hF
    clear hP hF
    obtain ⟨bk, HBK⟩ : ∃ bk, Hid (bk = w.heap.size) := ⟨_, rfl⟩
    go_enter Ybaf.func3, Ybaf.ntmps3
    go_wp2_with (at_make; refine wpList_make_full _ rfl _ _ 25 rfl w.heap.size 26 i26 (.slice none 0 0) 1 Ybaf.underlying25 hj hy0 hy1 _ _ _ _ n rfl rfl rfl rfl ?c1 (maxLen_of _ (by omega)) (Nat.le_refl _) ?_)
    case c1 => rw [hy2]; omega
    intro w1 hown hg
    rw [← HBK.out] at hown ⊢
    obtain ⟨q1, r1, l1⟩ := made_row hown
    have bel1 : Below w.heap.size w w1 := (Below.refl _ _).grown hg (Nat.le_refl _) (fun k hk => nomatch hk)
    clear hown hg
    obtain ⟨bv, HBV⟩ : ∃ bv, Hid (bv = w1.heap.size) := ⟨_, rfl⟩
    have HR1 := Hid.mk' r1
    clear r1
    go_wp2_with (at_make; refine wpList_make_full _ rfl _ _ 25 rfl w1.heap.size 26 i26 (.slice none 0 0) 1 Ybaf.underlying25 hj hy0 hy1 _ _ _ _ n rfl rfl rfl rfl ?d1 (maxLen_of _ (by omega)) (Nat.le_refl _) ?_)
    case d1 => rw [hy2]; omega
    intro w2 hown hg
    rw [← HBV.out] at hown ⊢
    obtain ⟨q2, r2, l2⟩ := made_row hown
    have bel2 : Below w.heap.size w w2 := bel1.grown hg bel1.size (fun k hk => nomatch hk)
    have HR2 := Hid.mk' (HR1.out.grown hg (by simp))
    have HRV := Hid.mk' r2
    have hbkv : bk < bv := by rw [HBV.out]; exact HR1.out.lt
    have HFI : Hid (Filled w w2 bk bv n 0 K' V') := ⟨bel2, HRV.out.lt, ⟨q1, HR2.out, l1⟩, ⟨q2, HRV.out, l2⟩, fun j hj => absurd hj (by omega), fun j hj => absurd hj (by omega)⟩
    clear hown hg r2 HR1 bel1 l1 l2
    go_wp2
    go_loopg [17, 18] n (fun gk t17 t18 wr => ∃ k : Nat, k + gk = n ∧ t18 = .int .i64 k ∧ t17 = .int .i64 (lsz K' V' k) ∧ Filled w wr bk bv n k K' V')
    case atStart => exact ⟨0, by omega, rfl, rfl, HFI.out⟩
    case round =>
      clear HFI HR2 HRV bel2
      obtain ⟨k, hkn, rfl, rfl, hfi⟩ := hrel
      have HFI := Hid.mk' hfi
      clear hfi
      by_cases hlt : k < n
      · have hao' := hao (by omega)
        subst hao'
        obtain ⟨q1, r1, l1⟩ := HFI.out.kr
        obtain ⟨q2, r2, l2⟩ := HFI.out.vr
        have HR1 := Hid.mk' r1
        have HR2 := Hid.mk' r2
        have HL1 := Hid.mk' l1
        have HL2 := Hid.mk' l2
        clear r1 r2 l1 l2
        have HSZ : Hid (lsz K' V' (k + 1) = lsz K' V' k + (4 + (K' k).length + (V' k).length)) := rfl
        have HLE : Hid (lsz K' V' k ≤ 4 + k * 281474976710660) := lsz_le K' V' k (fun j hj => by rw [HK'.out]; simp only [bs_length]; exact HP.out.ks j (by omega)) (fun j hj => by rw [HV'.out]; simp only [bs_length]; exact HP.out.vs j (by omega))
        have HB1 : Hid ((K k).size ≤ 140737488355328) := HP.out.ks k hlt
        have HB2 : Hid ((V k).size ≤ 140737488355328) := HP.out.vs k hlt
        have HE1 : Hid (K' k = bs (K k)) := by rw [HK'.out]; rfl
        have HE2 : Hid (V' k = bs (V k)) := by rw [HV'.out]; rfl
        have HC : Hid (∀ w', Below w.heap.size w w' → w'.cell? ⟨p, off + k * 2, none⟩ = some (.string (K k)) ∧ w'.cell? ⟨p, off + k * 2 + 1, none⟩ = some (.string (V k))) := fun w' hb => ⟨cell_stays hb (HP.out.k k hlt) (Nat.le_refl _), cell_stays hb (HP.out.v k hlt) (Nat.le_refl _)⟩
        obtain ⟨cK, _⟩ := HC.out wr HFI.out.bel
        generalize hA : lsz K' V' k = A at *
        obtain ⟨s1, hs1⟩ : ∃ s1, s1 = K k := ⟨_, rfl⟩
        obtain ⟨s2, hs2⟩ : ∃ s2, s2 = V k := ⟨_, rfl⟩
        have HS1 := Hid.mk' hs1
        have HS2 := Hid.mk' hs2
        rw [← hs1] at cK HB1 HE1 HC
        rw [← hs2] at HB2 HE2 HC
        clear hs1 hs2 hA
        go_wp2_with (refine wpList_bytes rfl (.tmp 48) rfl s1 rfl ?_)
        intro w3 c3 b3 g3 z3
        have HR3 := Hid.mk' (HR1.out.grown g3 (by simp))
        have HG3 := Hid.mk' g3
        have HZ3 := Hid.mk' z3
        have HBB3 := Hid.mk' b3
        clear g3 z3 b3 cK
        obtain ⟨p3, HP3⟩ : ∃ p3, Hid (p3 = wr.heap.size) := ⟨_, rfl⟩
        obtain ⟨x1, HX1⟩ : ∃ x1, Hid (x1 = (bs s1).length) := ⟨_, rfl⟩
        rw [← HP3.out, ← HX1.out]
        go_wp2_with (refine wpList_store_row rfl 26 (.tmp 50) (.tmp 49) rfl rfl bk k (.slice (some ⟨p3, 0, none⟩) x1 c3) rfl rfl 26 _ HR3.out Ybaf.size26 rfl rfl ?c2 ?_)
        case c2 => rw [HL1.out]; exact hlt
        intro w4 r4 g4
        have HR4 := Hid.mk' r4
        have HG4 := Hid.mk' g4
        have HBL4 : Hid (Below w.heap.size w w4) := (HFI.out.bel.grown HG3.out HFI.out.bel.size (fun k hk => nomatch hk)).grown g4 (Nat.le_trans HFI.out.bel.size HG3.out.size) (fun k hk => by cases hk; rw [HBK.out]; exact Nat.le_refl _)
        clear r4 g4
        obtain ⟨_, cV⟩ := HC.out w4 HBL4.out
        go_wp2_with (refine wpList_bytes rfl (.tmp 57) rfl s2 rfl ?_)
        intro w5 c5 b5 g5 z5
        have HR5 := Hid.mk' (((HR2.out.grown HG3.out (by simp)).grown HG4.out (by simp; omega)).grown g5 (by simp))
        have HG5 := Hid.mk' g5
        have HZ5 := Hid.mk' z5
        have HBB5 := Hid.mk' b5
        clear g5 z5 b5 cV
        obtain ⟨p5, HP5⟩ : ∃ p5, Hid (p5 = w4.heap.size) := ⟨_, rfl⟩
        obtain ⟨x2, HX2⟩ : ∃ x2, Hid (x2 = (bs s2).length) := ⟨_, rfl⟩
        rw [← HP5.out, ← HX2.out]
        go_wp2_with (refine wpList_store_row rfl 26 (.tmp 59) (.tmp 58) rfl rfl bv k (.slice (some ⟨p5, 0, none⟩) x2 c5) rfl rfl 26 _ HR5.out Ybaf.size26 rfl rfl ?d2 ?_)
        case d2 => rw [HL2.out]; exact hlt
        intro w6 r6 g6
        have HFI6 : Hid (Filled w w6 bk bv n (k + 1) K' V') := by
          refine HFI.out.push hlt HBK.out hbkv (p3 := p3) (c3 := c3) (p5 := p5) (c5 := c5) ?_ HP3.out HG3.out HZ3.out HR3.out HL1.out ?_ HG4.out ?_ HP5.out HG5.out HZ5.out HR5.out HL2.out ?_ g6
          · rw [HE1.out, HP3.out]; exact HBB3.out
          · rw [HE1.out, ← HX1.out]; exact HR4.out
          · rw [HE2.out, HP5.out]; exact HBB5.out
          · rw [HE2.out, ← HX2.out]; exact r6
        clear r6 g6
        obtain ⟨cK, cV⟩ := HC.out w6 HFI6.out.bel
        go_wp2_with fail
        go_quiet (fail)
        go_wp2
        go_roundg (gk - 1)
        case rel =>
          refine ⟨k + 1, by omega, by go_num, ?_, HFI6.out.drewN _⟩
          have := HLE.out
          have := HB1.out
          have := HB2.out
          rw [HSZ.out, HE1.out, HE2.out, bs_length, bs_length, wrap3 A s1.size s2.size (by omega) (by omega) (by omega)]
        case measure => omega
      · obtain rfl : k = n := by omega
        obtain ⟨hi, HHI⟩ : ∃ hi, Hid (hi = wr.heap.size) := ⟨_, rfl⟩
        have HKS : Hid (BufsIn (bv + 1) hi wr bk k K') := by rw [HHI.out]; exact HFI.out.ks
        have HVS : Hid (BufsIn (bv + 1) hi wr bv k V') := by rw [HHI.out]; exact HFI.out.vs
        have HSB : Hid (lsz K' V' k ≤ 4 + k * 281474976710660) := lsz_le K' V' k (fun j hj => by rw [HK'.out]; simp only [bs_length]; exact HP.out.ks j (by omega)) (fun j hj => by rw [HV'.out]; simp only [bs_length]; exact HP.out.vs j (by omega))
        have hszb := HSB.out
        have HQK : Hid (∀ j, j < k → (K' j).length ≤ 140737488355328) := fun j hj => by rw [HK'.out]; simp only [bs_length]; exact HP.out.ks j (by omega)
        have HQV : Hid (∀ j, j < k → (V' j).length ≤ 140737488355328) := fun j hj => by rw [HV'.out]; simp only [bs_length]; exact HP.out.vs j (by omega)
        obtain ⟨sz, HSZ⟩ : ∃ sz, Hid (sz = lsz K' V' k) := ⟨_, rfl⟩
        rw [← HSZ.out] at hszb ⊢
        have hbyt : sz + mis ≤ 9223372036854775807 ∧ -9223372036854775808 ≤ sz + mis := by omega
        obtain ⟨byt, HBY⟩ : ∃ byt : Int, Hid (byt = sz + mis) := ⟨_, rfl⟩
        go_wp2_with fail
        refine (new5' _ _ (wr.heap.size + 1 + 1) (by simp)).mono ?_
        rintro e w3 ⟨rfl, r3, g3⟩
        have HRD := Hid.mk' (ready_of HFI.out hn HQK.out HQV.out hbkv r3 g3)
        have HW3 : Hid (F.answers w3.tape) := by
          have e : w3.tape = w.tape := HRD.out.bel.tape
          rw [e]; exact HFF.out
        clear r3 g3
        generalize wr.heap.size = bn at *
        generalize bn + 1 + 1 = bt at *
        generalize bn + 1 = bp at *
        generalize w3.heap.size = b at *
        clear HBY hbyt HFI HKS HVS HP
        by_cases hd : dirty = false
        · subst hd
          go_wp2_with fail
          refine (write6_clean w3 bt bn oldID true _ _ _ _ _ HRD.out.nd).mono ?_
          rintro e w4 ⟨rfl, rfl⟩
          have p3 : w4.cell? ⟨bp, 3, none⟩ = some (.int .i64 0) := HRD.out.st.pg.cell 3
          have p4 : w4.cell? ⟨bp, 4, none⟩ = some (.slice none 0 0) := HRD.out.st.pg.cell 4
          have t5 : w4.cell? ⟨bt, 5, none⟩ = some (.slice none 0 0) := HRD.out.st.tr.cell 5
          have n0 : w4.cell? ⟨bn, 0, none⟩ = some (.int .u64 oldID) := HRD.out.nd.cell 0
          have n1 : w4.cell? ⟨bn, 1, none⟩ = some (.bool false) := HRD.out.nd.cell 1
          go_wp2
          go_ret
          exact ⟨rfl, HRD.out.bel⟩
        · obtain rfl : dirty = true := by simpa using hd
          clear hd
          cases fa with
          | true =>
            go_wp2_with fail
            refine (write6_noalloc w3 b bp bt bn base fw 0 [] [] [] _ _ _ HRD.out.st (by omega) oldID true _ _ _ _ HRD.out.nb HRD.out.nd).mono ?_
            rintro e w4 ⟨⟨q, rfl⟩, hs4, hn4, hf4⟩
            have HBL : Hid (Below w.heap.size w w4) := (HRD.out.after hf4).1
            have p3 : w4.cell? ⟨bp, 3, none⟩ = some (.int .i64 1) := hs4.pg.cell 3
            have p4 : w4.cell? ⟨bp, 4, none⟩ = some (.slice none 0 0) := hs4.pg.cell 4
            have t5 : w4.cell? ⟨bt, 5, none⟩ = some (.slice none 0 0) := hs4.tr.cell 5
            have n0 : w4.cell? ⟨bn, 0, none⟩ = some (.int .u64 oldID) := hn4.cell 0
            have n1 : w4.cell? ⟨bn, 1, none⟩ = some (.bool true) := hn4.cell 1
            clear hs4 hn4 hf4
            go_wp2
            go_ret
            exact ⟨rfl, HBL.out⟩
          | false =>
            by_cases hb : 4092 < sz ∨ mis ≠ 0
            · go_wp2_with fail
              refine (write6_big F w3 HW3.out b bp bt bn base fw 0 [] [] [] _ _ _ HRD.out.st (by omega) oldID true _ _ _ _ HRD.out.nb HRD.out.nd sz (by omega) ?c5 (HRD.out.size sz HSZ.out _ _ _ _)).mono ?_
              case c5 => rcases hb with h | h
                         · exact .inl h
                         · exact .inr (by omega)
              rintro e w4 ⟨⟨q, rfl⟩, hs4, hn4, hf4⟩
              have HBL : Hid (Below w.heap.size w w4) := (HRD.out.after hf4).1
              have p3 : w4.cell? ⟨bp, 3, none⟩ = some (.int .i64 1) := hs4.pg.cell 3
              have p4 : w4.cell? ⟨bp, 4, none⟩ = some (.slice none 0 0) := hs4.pg.cell 4
              have t5 : w4.cell? ⟨bt, 5, none⟩ = some (.slice none 0 0) := hs4.tr.cell 5
              have n0 : w4.cell? ⟨bn, 0, none⟩ = some (.int .u64 oldID) := hn4.cell 0
              have n1 : w4.cell? ⟨bn, 1, none⟩ = some (.bool true) := hn4.cell 1
              clear hs4 hn4 hf4
              by_cases hb1 : 4092 < sz
              · clear hb
                go_wp2
                go_ret
                exact ⟨rfl, HBL.out⟩
              · have hb2 : (mis != 0) = true := by simpa using hb.resolve_left hb1
                clear hb
                go_wp2
                go_ret
                exact ⟨rfl, HBL.out⟩
            · obtain ⟨hb1, hb2⟩ := not_or.1 hb
              obtain rfl : mis = 0 := by omega
              have hsz2 : sz ≤ 4092 := by omega
              clear hb hb1 hb2
              rw [Int.add_zero] at HRD
              have HLS : Hid (lsz K' V' k ≤ 4092) := by rw [← HSZ.out]; exact hsz2
              obtain ⟨nx, HNX⟩ : ∃ nx, Hid (nx = inc base) := ⟨_, rfl⟩
              have hy : IntKind.u64.wrap (base + 1) = nx := HNX.out.symm
              cases fw with
              | true =>
                go_wp2_with fail
                refine (write6_fits w3 b bp bt bn base true 0 [] [] [] _ _ _ HRD.out.st (by omega) (by simp) (by simp) (by simp) oldID true _ _ _ sz hsz2 HRD.out.nb HRD.out.nd (lbytes K' V' k k) (HRD.out.size sz HSZ.out _ _ _ _) (HRD.out.enc HLS.out _ _ _ _)).mono ?_
                rintro e w4 ⟨g, vi', vb', vf', hf4, ⟨q, rfl⟩, hs4, hn4⟩
                rw [← HNX.out] at hs4
                have HBL : Hid (Below w.heap.size w w4) := (HRD.out.after hf4).1
                have HKB : Hid (Bufs w4 bk k K') := (HRD.out.after hf4).2.1
                have HVB : Hid (Bufs w4 bv k V') := (HRD.out.after hf4).2.2
                have HPG : Hid (PRow w4 g (lbytes K' V' k k)) := (hs4.rows.pages (g, lbytes K' V' k k) (by simp)).2
                obtain ⟨gi, ci, rfl, xi⟩ := own_one hs4.rows.ids
                obtain ⟨gb, cb, rfl, xb⟩ := own_one hs4.rows.bufs
                obtain ⟨gf, cf, rfl⟩ := own_shape hs4.rows.freed
                have p3 : w4.cell? ⟨bp, 3, none⟩ = some (.int .i64 1) := hs4.pg.cell 3
                have p4 : w4.cell? ⟨bp, 4, none⟩ = some (.slice (some ⟨gi, 0, none⟩) 1 ci) := hs4.pg.cell 4
                have p5 : w4.cell? ⟨bp, 5, none⟩ = some (.slice (some ⟨gb, 0, none⟩) 1 cb) := hs4.pg.cell 5
                have t5 : w4.cell? ⟨bt, 5, none⟩ = some (.slice gf 0 cf) := hs4.tr.cell 5
                have n0 : w4.cell? ⟨bn, 0, none⟩ = some (.int .u64 oldID) := hn4.cell 0
                have n1 : w4.cell? ⟨bn, 1, none⟩ = some (.bool true) := hn4.cell 1
                clear hs4 hn4 hf4
                go_wp2_with fail
                go_region_held3 (fun w' => w'.cell? ⟨bp, 4, none⟩ = some (.slice (some ⟨gi, 0, none⟩) 1 ci) ∧ w'.cell? ⟨bp, 5, none⟩ = some (.slice (some ⟨gb, 0, none⟩) 1 cb) ∧ w'.cell? ⟨gi, 0, none⟩ = some (.int .u64 nx) ∧ w'.cell? ⟨gb, 0, none⟩ = some (.slice (some ⟨g, 0, none⟩) 4092 4092)) (first | exact ⟨p4, p5, xi, xb⟩ | exact ⟨by assumption, by assumption, by assumption, by assumption⟩)
                  (first
                    | (go_at_call 8; refine (leafpage8 w4.drew bk bv k k k K' V' hn HKB.out HVB.out HLS.out).mono ?_; rintro e w5 ⟨rfl, hp5, hb5⟩; have y1 := cell_stays (w := w4.drew) hb5 p4 (Nat.le_refl _); have y2 := cell_stays (w := w4.drew) hb5 p5 (Nat.le_refl _); have y3 := cell_stays (w := w4.drew) hb5 xi (Nat.le_refl _); have y4 := cell_stays (w := w4.drew) hb5 xb (Nat.le_refl _))
                    | (go_at_call 7; refine (equal_pages w5 g w4.drew.heap.size _ (HPG.out.drew.grown (grown_of_below hb5) (by simp)) hp5).mono ?_; rintro e w6 ⟨rfl, rfl⟩))
                have HB6 : Hid (Below w.heap.size w w6) := (Below.drew HBL.out).trans (hb5.mono HBL.out.size)
                clear hb5 hp5
                go_wp2
                go_ret
                exact ⟨rfl, HB6.out⟩
              | false =>
                go_wp2_with fail
                refine (write6_fits w3 b bp bt bn base false 0 [] [] [] _ _ _ HRD.out.st (by omega) (by simp) (by simp) (by simp) oldID true _ _ _ sz hsz2 HRD.out.nb HRD.out.nd (lbytes K' V' k k) (HRD.out.size sz HSZ.out _ _ _ _) (HRD.out.enc HLS.out _ _ _ _)).mono ?_
                rintro e w4 ⟨g, vi', vb', vf', hf4, he, hs4, hn4⟩
                rw [← HNX.out] at hs4 he hn4
                obtain rfl : e = .returned (.tuple #[.int .u64 nx, .nilIface]) := he
                have HBL : Hid (Below w.heap.size w w4) := (HRD.out.after hf4).1
                have HKB : Hid (Bufs w4 bk k K') := (HRD.out.after hf4).2.1
                have HVB : Hid (Bufs w4 bv k V') := (HRD.out.after hf4).2.2
                have HPG : Hid (PRow w4 g (lbytes K' V' k k)) := (hs4.rows.pages (g, lbytes K' V' k k) (by simp)).2
                obtain ⟨gi, ci, rfl, xi⟩ := own_one hs4.rows.ids
                obtain ⟨gb, cb, rfl, xb⟩ := own_one hs4.rows.bufs
                have HFR := Hid.mk' hs4.rows.freed
                have HT5 : Hid (w4.cell? ⟨bt, 5, none⟩ = some vf') := hs4.tr.cell 5
                have p3 : w4.cell? ⟨bp, 3, none⟩ = some (.int .i64 1) := hs4.pg.cell 3
                have p4 : w4.cell? ⟨bp, 4, none⟩ = some (.slice (some ⟨gi, 0, none⟩) 1 ci) := hs4.pg.cell 4
                have p5 : w4.cell? ⟨bp, 5, none⟩ = some (.slice (some ⟨gb, 0, none⟩) 1 cb) := hs4.pg.cell 5
                have HP6 : Hid (w4.cell? ⟨bp, 6, none⟩ = some (.int .i64 0)) := hs4.pg.cell 6
                have n0 : w4.cell? ⟨bn, 0, none⟩ = some (.int .u64 nx) := hn4.cell 0
                have n1 : w4.cell? ⟨bn, 1, none⟩ = some (.bool false) := hn4.cell 1
                clear hs4 hn4 hf4
                have hq : ∃ qq : Bool, (nx == oldID) = qq := ⟨_, rfl⟩
                obtain ⟨qq, hqq⟩ := hq
                by_cases hid : oldID = 0
                · subst hid
                  have hfr := HFR.out
                  rw [show ([] : List Int) ++ one 0 = [] by simp [one]] at hfr
                  obtain ⟨gf, cf, rfl⟩ := own_shape hfr
                  have t5 : w4.cell? ⟨bt, 5, none⟩ = some (.slice gf 0 cf) := HT5.out
                  clear hfr HFR
                  cases qq with
                  | true =>
                    go_wp2_with fail
                    go_region_held3 (fun w' => w'.cell? ⟨bp, 4, none⟩ = some (.slice (some ⟨gi, 0, none⟩) 1 ci) ∧ w'.cell? ⟨bp, 5, none⟩ = some (.slice (some ⟨gb, 0, none⟩) 1 cb) ∧ w'.cell? ⟨gi, 0, none⟩ = some (.int .u64 nx) ∧ w'.cell? ⟨gb, 0, none⟩ = some (.slice (some ⟨g, 0, none⟩) 4092 4092)) (first | exact ⟨p4, p5, xi, xb⟩ | exact ⟨by assumption, by assumption, by assumption, by assumption⟩)
                      (first
                        | (go_at_call 8; refine (leafpage8 w4.drew bk bv k k k K' V' hn HKB.out HVB.out HLS.out).mono ?_; rintro e w5 ⟨rfl, hp5, hb5⟩; have y1 := cell_stays (w := w4.drew) hb5 p4 (Nat.le_refl _); have y2 := cell_stays (w := w4.drew) hb5 p5 (Nat.le_refl _); have y3 := cell_stays (w := w4.drew) hb5 xi (Nat.le_refl _); have y4 := cell_stays (w := w4.drew) hb5 xb (Nat.le_refl _))
                        | (go_at_call 7; refine (equal_pages w5 g w4.drew.heap.size _ (HPG.out.drew.grown (grown_of_below hb5) (by simp)) hp5).mono ?_; rintro e w6 ⟨rfl, rfl⟩))
                    have HB6 : Hid (Below w.heap.size w w6) := (Below.drew HBL.out).trans (hb5.mono HBL.out.size)
                    have z1 : w6.cell? ⟨bt, 5, none⟩ = some (.slice gf 0 cf) := cell_stays (w := w4.drew) hb5 t5 (Nat.le_refl _)
                    have z2 : w6.cell? ⟨bn, 0, none⟩ = some (.int .u64 nx) := cell_stays (w := w4.drew) hb5 n0 (Nat.le_refl _)
                    have z3 : w6.cell? ⟨bn, 1, none⟩ = some (.bool false) := cell_stays (w := w4.drew) hb5 n1 (Nat.le_refl _)
                    have z4 : w6.cell? ⟨bp, 6, none⟩ = some (.int .i64 0) := cell_stays (w := w4.drew) hb5 HP6.out (Nat.le_refl _)
                    clear hb5 hp5
                    go_wp2
                    go_ret
                    exact ⟨rfl, HB6.out⟩
                  | false =>
                    go_wp2_with fail
                    go_region_held3 (fun w' => w'.cell? ⟨bp, 4, none⟩ = some (.slice (some ⟨gi, 0, none⟩) 1 ci) ∧ w'.cell? ⟨bp, 5, none⟩ = some (.slice (some ⟨gb, 0, none⟩) 1 cb) ∧ w'.cell? ⟨gi, 0, none⟩ = some (.int .u64 nx) ∧ w'.cell? ⟨gb, 0, none⟩ = some (.slice (some ⟨g, 0, none⟩) 4092 4092)) (first | exact ⟨p4, p5, xi, xb⟩ | exact ⟨by assumption, by assumption, by assumption, by assumption⟩)
                      (first
                        | (go_at_call 8; refine (leafpage8 w4.drew bk bv k k k K' V' hn HKB.out HVB.out HLS.out).mono ?_; rintro e w5 ⟨rfl, hp5, hb5⟩; have y1 := cell_stays (w := w4.drew) hb5 p4 (Nat.le_refl _); have y2 := cell_stays (w := w4.drew) hb5 p5 (Nat.le_refl _); have y3 := cell_stays (w := w4.drew) hb5 xi (Nat.le_refl _); have y4 := cell_stays (w := w4.drew) hb5 xb (Nat.le_refl _))
                        | (go_at_call 7; refine (equal_pages w5 g w4.drew.heap.size _ (HPG.out.drew.grown (grown_of_below hb5) (by simp)) hp5).mono ?_; rintro e w6 ⟨rfl, rfl⟩))
                    have HB6 : Hid (Below w.heap.size w w6) := (Below.drew HBL.out).trans (hb5.mono HBL.out.size)
                    have z1 : w6.cell? ⟨bt, 5, none⟩ = some (.slice gf 0 cf) := cell_stays (w := w4.drew) hb5 t5 (Nat.le_refl _)
                    have z2 : w6.cell? ⟨bn, 0, none⟩ = some (.int .u64 nx) := cell_stays (w := w4.drew) hb5 n0 (Nat.le_refl _)
                    have z3 : w6.cell? ⟨bn, 1, none⟩ = some (.bool false) := cell_stays (w := w4.drew) hb5 n1 (Nat.le_refl _)
                    have z4 : w6.cell? ⟨bp, 6, none⟩ = some (.int .i64 0) := cell_stays (w := w4.drew) hb5 HP6.out (Nat.le_refl _)
                    clear hb5 hp5
                    go_wp2
                    go_ret
                    exact ⟨rfl, HB6.out⟩
                · have hid' : (oldID != 0) = true := by simpa using hid
                  have hfr := HFR.out
                  rw [show ([] : List Int) ++ one oldID = [oldID] by simp [one, hid]] at hfr
                  obtain ⟨gf, cf, rfl, xf⟩ := own_one hfr
                  have t5 : w4.cell? ⟨bt, 5, none⟩ = some (.slice (some ⟨gf, 0, none⟩) 1 cf) := HT5.out
                  clear hfr HFR hid
                  cases qq with
                  | true =>
                    go_wp2_with fail
                    go_region_held3 (fun w' => w'.cell? ⟨bp, 4, none⟩ = some (.slice (some ⟨gi, 0, none⟩) 1 ci) ∧ w'.cell? ⟨bp, 5, none⟩ = some (.slice (some ⟨gb, 0, none⟩) 1 cb) ∧ w'.cell? ⟨gi, 0, none⟩ = some (.int .u64 nx) ∧ w'.cell? ⟨gb, 0, none⟩ = some (.slice (some ⟨g, 0, none⟩) 4092 4092)) (first | exact ⟨p4, p5, xi, xb⟩ | exact ⟨by assumption, by assumption, by assumption, by assumption⟩)
                      (first
                        | (go_at_call 8; refine (leafpage8 w4.drew bk bv k k k K' V' hn HKB.out HVB.out HLS.out).mono ?_; rintro e w5 ⟨rfl, hp5, hb5⟩; have y1 := cell_stays (w := w4.drew) hb5 p4 (Nat.le_refl _); have y2 := cell_stays (w := w4.drew) hb5 p5 (Nat.le_refl _); have y3 := cell_stays (w := w4.drew) hb5 xi (Nat.le_refl _); have y4 := cell_stays (w := w4.drew) hb5 xb (Nat.le_refl _))
                        | (go_at_call 7; refine (equal_pages w5 g w4.drew.heap.size _ (HPG.out.drew.grown (grown_of_below hb5) (by simp)) hp5).mono ?_; rintro e w6 ⟨rfl, rfl⟩))
                    have HB6 : Hid (Below w.heap.size w w6) := (Below.drew HBL.out).trans (hb5.mono HBL.out.size)
                    have z1 : w6.cell? ⟨bt, 5, none⟩ = some (.slice (some ⟨gf, 0, none⟩) 1 cf) := cell_stays (w := w4.drew) hb5 t5 (Nat.le_refl _)
                    have z2 : w6.cell? ⟨bn, 0, none⟩ = some (.int .u64 nx) := cell_stays (w := w4.drew) hb5 n0 (Nat.le_refl _)
                    have z3 : w6.cell? ⟨bn, 1, none⟩ = some (.bool false) := cell_stays (w := w4.drew) hb5 n1 (Nat.le_refl _)
                    have z4 : w6.cell? ⟨bp, 6, none⟩ = some (.int .i64 0) := cell_stays (w := w4.drew) hb5 HP6.out (Nat.le_refl _)
                    have z5 : w6.cell? ⟨gf, 0, none⟩ = some (.int .u64 oldID) := cell_stays (w := w4.drew) hb5 xf (Nat.le_refl _)
                    clear hb5 hp5
                    go_wp2
                    go_ret
                    exact ⟨rfl, HB6.out⟩
                  | false =>
                    go_wp2_with fail
                    go_region_held3 (fun w' => w'.cell? ⟨bp, 4, none⟩ = some (.slice (some ⟨gi, 0, none⟩) 1 ci) ∧ w'.cell? ⟨bp, 5, none⟩ = some (.slice (some ⟨gb, 0, none⟩) 1 cb) ∧ w'.cell? ⟨gi, 0, none⟩ = some (.int .u64 nx) ∧ w'.cell? ⟨gb, 0, none⟩ = some (.slice (some ⟨g, 0, none⟩) 4092 4092)) (first | exact ⟨p4, p5, xi, xb⟩ | exact ⟨by assumption, by assumption, by assumption, by assumption⟩)
                      (first
                        | (go_at_call 8; refine (leafpage8 w4.drew bk bv k k k K' V' hn HKB.out HVB.out HLS.out).mono ?_; rintro e w5 ⟨rfl, hp5, hb5⟩; have y1 := cell_stays (w := w4.drew) hb5 p4 (Nat.le_refl _); have y2 := cell_stays (w := w4.drew) hb5 p5 (Nat.le_refl _); have y3 := cell_stays (w := w4.drew) hb5 xi (Nat.le_refl _); have y4 := cell_stays (w := w4.drew) hb5 xb (Nat.le_refl _))
                        | (go_at_call 7; refine (equal_pages w5 g w4.drew.heap.size _ (HPG.out.drew.grown (grown_of_below hb5) (by simp)) hp5).mono ?_; rintro e w6 ⟨rfl, rfl⟩))
                    have HB6 : Hid (Below w.heap.size w w6) := (Below.drew HBL.out).trans (hb5.mono HBL.out.size)
                    have z1 : w6.cell? ⟨bt, 5, none⟩ = some (.slice (some ⟨gf, 0, none⟩) 1 cf) := cell_stays (w := w4.drew) hb5 t5 (Nat.le_refl _)
                    have z2 : w6.cell? ⟨bn, 0, none⟩ = some (.int .u64 nx) := cell_stays (w := w4.drew) hb5 n0 (Nat.le_refl _)
                    have z3 : w6.cell? ⟨bn, 1, none⟩ = some (.bool false) := cell_stays (w := w4.drew) hb5 n1 (Nat.le_refl _)
                    have z4 : w6.cell? ⟨bp, 6, none⟩ = some (.int .i64 0) := cell_stays (w := w4.drew) hb5 HP6.out (Nat.le_refl _)
                    have z5 : w6.cell? ⟨gf, 0, none⟩ = some (.int .u64 oldID) := cell_stays (w := w4.drew) hb5 xf (Nat.le_refl _)
                    clear hb5 hp5
                    go_wp2
                    go_ret
                    exact ⟨rfl, HB6.out⟩
end Go.Proofs.YbulkciosFmt
