/-
  'LawS4230CBranch' (4).
-/
import Derived.Test.YbulkciosFmtExp
import Derived.Deep.OwnRows
namespace Go.Proofs.YbulkciosFmt
open Go.RowKit Go.Extern.Stop Go.Stop Go.Extern

theorem Ybaf.info29 : (Ybaf.prog.info? 29).map (fun i => (i.zero, i.size, i.bytes)) = some (some (.pointer none), 1, 8) := by kernel_rfl

theorem made_reps (z : Value) (N : Nat) : madeCells #[z] N = (List.replicate N z).toArray := by
  apply Array.ext
  · simp [madeCells]
  · intro i h1 h2
    simp [madeCells, Nat.mod_one]

theorem curO_zero (Q : Nat → Kid) (n : Nat) : curO Q n 0 = List.replicate n (.int .u64 0) := by
  apply List.ext_getElem?
  intro j
  by_cases h : j < n
  · simp [curO, h]
  · simp [curO, h]
theorem ptrsO_zero (Q : Nat → Kid) (nd : Nat → Nat) (n : Nat) : ptrsO Q nd n 0 = List.replicate n (.pointer none) := by
  apply List.ext_getElem?
  intro j
  by_cases h : j < n
  · simp [ptrsO, h]
  · simp [ptrsO, h]

theorem three {w : World} (A B C : Obj) : (((w.alloc A).alloc B).alloc C).drew.heap[w.heap.size]? = some A ∧ (((w.alloc A).alloc B).alloc C).drew.heap[w.heap.size + 1]? = some B ∧ (((w.alloc A).alloc B).alloc C).drew.heap[w.heap.size + 1 + 1]? = some C ∧ Below w.heap.size w (((w.alloc A).alloc B).alloc C).drew := by
  have sA : (w.alloc A).heap.size = w.heap.size + 1 := by simp
  have sB : ((w.alloc A).alloc B).heap.size = w.heap.size + 1 + 1 := by simp
  refine ⟨?_, ?_, ?_, Below.drew (((Below.refl _ _).alloc (Nat.le_refl _) A).alloc (by omega) B |>.alloc (by omega) C)⟩
  · show (((w.alloc A).alloc B).alloc C).heap[w.heap.size]? = _
    rw [Below.heap_alloc _ _ _ (by omega), Below.heap_alloc _ _ _ (by omega)]
    exact heap_alloc_new w A
  · show (((w.alloc A).alloc B).alloc C).heap[w.heap.size + 1]? = _
    rw [Below.heap_alloc _ _ _ (by omega), ← sA]
    exact heap_alloc_new _ B
  · show (((w.alloc A).alloc B).alloc C).heap[w.heap.size + 1 + 1]? = _
    rw [← sB]
    exact heap_alloc_new _ C

theorem grown_drew (w : World) : w.grownBy w.drew none := ⟨rfl, rfl, rfl, Nat.le_refl _, fun _ _ _ => rfl⟩

theorem cons_start {w w' : World} {n kb nb bn : Nat} {Q : Nat → Kid} {pid : Int} (hb : Below w.heap.size w w') (l1 : w.heap.size ≤ kb) (l2 : w.heap.size ≤ nb) (l3 : w.heap.size ≤ bn)
    (rk : w'.heap[kb]? = some (.cells (madeCells #[.int .u64 0] n) 23 (0, 0))) (rn : w'.heap[nb]? = some (.cells (madeCells #[.pointer none] n) 29 (0, 0)))
    (rb : RowAt w' bn 34 (nodeRow pid true false (.slice none 0 0) (.slice none 0 0) (.slice (some ⟨kb, 0, none⟩) n n) (.slice (some ⟨nb, 0, none⟩) n n) 0)) : Cons w w' n 0 0 0 kb nb bn Q (fun _ => 0) pid (.slice none 0 0) := by
  refine ⟨hb, l1, l2, l3, ?_, ?_, rb, ⟨[], World.ownsRow_nil _ _ _ _, fun j hj => absurd hj (by omega)⟩, fun j hj => absurd hj (by omega), fun j j' hj => absurd hj (by omega)⟩
  · unfold RowAt
    rw [rk, made_reps, curO_zero]
  · unfold RowAt
    rw [rn, made_reps, ptrsO_zero]

/-- The world behind '[]byte(s)'. -/
def bytesC (w : World) (s : ByteArray) : Nat := grownCap w (bs s).length 0 5
def bytesW (w : World) (s : ByteArray) : World := w.drew.alloc (Obj.cells (bytesRow s (bytesC w s)) 5 ((bytesRow s (bytesC w s)).size, (bytesRow s (bytesC w s)).size + 1))

theorem run_bytesW (w : World) (s : ByteArray) : (convert 9 26 (.string s)).run Ybaf.prog w = .ok (.slice (some ⟨w.heap.size, 0, none⟩) s.size (bytesC w s)) (bytesW w s) := by
  have hr := run_bytes_of_string (P := Ybaf.prog) w 9 26 5 s Ybaf.underlying9 Ybaf.underlying26 Ybaf.underlying5
  unfold bytesW bytesC
  rw [bs_length]
  exact hr

theorem bytesW_size (w : World) (s : ByteArray) : (bytesW w s).heap.size = w.heap.size + 1 := by simp [bytesW]
theorem bytesW_grown (w : World) (s : ByteArray) : w.grownBy (bytesW w s) none := grown_two (grown_drew w) (grown_alloc w.drew _) (.inl rfl) (.inl rfl)
theorem bytesW_at (w : World) (s : ByteArray) : BytesAt (bytesW w s) (bytesW w s).heap.size w.heap.size (bs s) := by
  have e : (bytesW w s).heap[w.heap.size]? = some (Obj.cells (bytesRow s (bytesC w s)) 5 ((bytesRow s (bytesC w s)).size, (bytesRow s (bytesC w s)).size + 1)) := heap_alloc_new w.drew _
  refine ⟨by rw [bytesW_size]; omega, ⟨_, _, e⟩, fun i y hy => ?_⟩
  unfold bs at hy
  rw [List.getElem?_map, Option.map_eq_some_iff] at hy
  obtain ⟨z, hz, rfl⟩ := hy
  have hlt : i < s.data.size := by simpa using (List.getElem?_eq_some_iff.1 hz).1
  have hz' : s.data[i] = z := by simpa using (List.getElem?_eq_some_iff.1 hz).2
  simp only [World.cell?, e]
  rw [bytesRow_at s _ i hlt, hz']
  simp

theorem keep5 {W W' : World} {r : Option Nat} {a1 a2 a3 a4 a5 : Addr} {v1 v2 v3 v4 v5 : Value} (h : W.cell? a1 = some v1 ∧ W.cell? a2 = some v2 ∧ W.cell? a3 = some v3 ∧ W.cell? a4 = some v4 ∧ W.cell? a5 = some v5) (hg : W.grownBy W' r)
    (n1 : some a1.block ≠ r) (n2 : some a2.block ≠ r) (n3 : some a3.block ≠ r) (n4 : some a4.block ≠ r) (n5 : some a5.block ≠ r) : W'.cell? a1 = some v1 ∧ W'.cell? a2 = some v2 ∧ W'.cell? a3 = some v3 ∧ W'.cell? a4 = some v4 ∧ W'.cell? a5 = some v5 :=
  ⟨hg.cell h.1 n1, hg.cell h.2.1 n2, hg.cell h.2.2.1 n3, hg.cell h.2.2.2.1 n4, hg.cell h.2.2.2.2 n5⟩

/-- '[]byte(s)', the run, the new block told. -/
theorem run_bytes (w : World) (s : ByteArray) : ∃ c w', (convert 9 26 (.string s)).run Ybaf.prog w = .ok (.slice (some ⟨w.heap.size, 0, none⟩) (bs s).length c) w' ∧ BytesAt w' w'.heap.size w.heap.size (bs s) ∧ w.grownBy w' none ∧ w'.heap.size = w.heap.size + 1 := by
  have hr := run_bytes_of_string (P := Ybaf.prog) w 9 26 5 s Ybaf.underlying9 Ybaf.underlying26 Ybaf.underlying5
  rw [← bs_length] at hr
  generalize grownCap w (bs s).length 0 5 = C at hr
  have e : (w.drew.alloc (Obj.cells (bytesRow s C) 5 ((bytesRow s C).size, (bytesRow s C).size + 1))).heap[w.heap.size]? = some (Obj.cells (bytesRow s C) 5 ((bytesRow s C).size, (bytesRow s C).size + 1)) := heap_alloc_new w.drew _
  refine ⟨C, _, hr, ⟨by simp, ⟨_, _, e⟩, fun i y hy => ?_⟩, ?_, by simp⟩
  · unfold bs at hy
    rw [List.getElem?_map, Option.map_eq_some_iff] at hy
    obtain ⟨z, hz, rfl⟩ := hy
    have hlt : i < s.data.size := by simpa using (List.getElem?_eq_some_iff.1 hz).1
    have hz' : s.data[i] = z := by simpa using (List.getElem?_eq_some_iff.1 hz).2
    simp only [World.cell?, e]
    rw [bytesRow_at s _ i hlt, hz']
    simp
  · exact grown_two (grown_drew w) (grown_alloc w.drew _) (.inl rfl) (.inl rfl)

theorem wpList_bytesT {w : World} {ops : Array Oper} {rest : List Oper} {o : Oper} {a : Act} {Q : Exit → Act → World → Prop} (hgd : o.guard = none) (x : Operand) (ho : o.op = .convert 9 26 x) (s : ByteArray) (hx : a.eval x = .string s)
    (h : ∀ w' c, BytesAt w' w'.heap.size w.heap.size (bs s) → w.grownBy w' none → w'.heap.size = w.heap.size + 1 → wpList Ybaf.prog ops Q rest (a.put o.dst (.slice (some ⟨w.heap.size, 0, none⟩) (bs s).length c)) w') :
    wpList Ybaf.prog ops Q (o :: rest) a w := by
  obtain ⟨c, w', hr, h1, h2, h3⟩ := run_bytes w s
  refine wpList_plain hgd fun K hK => ?_
  unfold Oper.wp execOp
  simp only [ho, hx, hr, Sem.run_bind, Sem.run_pure, Result.andThen_ok]
  exact hK _ _ (h _ _ h1 h2 h3)

set_option maxRecDepth 100000 in
set_option maxHeartbeats 40000000 in
set_option linter.unusedSimpArgs false in
set_option linter.unusedVariables false in
theorem branch4 (F : Interp) (w : World) (hF : F.answers w.tape) (p off n cap : Nat) (Q : Nat → Kid) (hQ : KidsAt w p off n Q) (pid base : Int) (hpid : U64 pid) (hn0 : 0 < n) (hn1 : n ≤ 256) :
    Calls Ybaf.prog 4 #[.slice (some ⟨p, off, none⟩) n cap, .int .u64 pid, .int .u64 base] w fun e w' => e = .returned (.bool true) ∧ Below w.heap.size w w' := by
  have HQ := Hid.mk' hQ
  have HFF := Hid.mk' hF
  have HPID := Hid.mk' hpid
  clear hQ hF hpid
  have e0 : ((n : Int) == 0) = false := by simp; omega
  have e1 : decide (256 < (n : Int)) = false := by simp; omega
  have mk31 := fun w => run_make_row' (P := Ybaf.prog) 31 23 (.int .u64 0) 8 Ybaf.underlying31 Ybaf.info23 rfl .i64 .i64 n (by omega) (by omega) w
  have mk32 := fun w => run_make_row' (P := Ybaf.prog) 32 29 (.pointer none) 8 Ybaf.underlying32 Ybaf.info29 rfl .i64 .i64 n (by omega) (by omega) w
  go_enter Ybaf.func4, Ybaf.ntmps4
  go_upto_region 3 with fail
  go_cut [7] from 33 to 41 (fun t7 wc => ∃ kb nb bn : Nat, t7 = .pointer (some ⟨bn, 0, none⟩) ∧ Cons w wc n 0 0 0 kb nb bn Q (fun _ => 0) pid (.slice none 0 0))
  case first =>
    go_region_held3 (fun _ => True) (first | exact trivial) (fail)
    · go_wp2
      go_meet
      case rel =>
        obtain ⟨h1, h2, h3, h4⟩ := @three w (Obj.cells (madeCells #[.int .u64 0] n) 23) (Obj.cells (madeCells #[.pointer none] n) 29) (Obj.cells #[.int .u64 pid, .bool true, .bool false, .slice none 0 0, .slice none 0 0, .slice none 0 0, .slice none 0 0, .slice (some ⟨w.heap.size, 0, none⟩) n n, .slice (some ⟨w.heap.size + 1, 0, none⟩) n n, .int .i64 0] 34)
        exact ⟨w.heap.size, w.heap.size + 1, w.heap.size + 1 + 1, rfl, cons_start h4 (Nat.le_refl _) (by omega) (by omega) h1 h2 h3⟩
    · go_wp2
      go_meet
      case rel =>
        obtain ⟨h1, h2, h3, h4⟩ := @three w (Obj.cells (madeCells #[.pointer none] n) 29) (Obj.cells (madeCells #[.int .u64 0] n) 23) (Obj.cells #[.int .u64 pid, .bool true, .bool false, .slice none 0 0, .slice none 0 0, .slice none 0 0, .slice none 0 0, .slice (some ⟨w.heap.size + 1, 0, none⟩) n n, .slice (some ⟨w.heap.size, 0, none⟩) n n, .int .i64 0] 34)
        exact ⟨w.heap.size + 1, w.heap.size, w.heap.size + 1 + 1, rfl, cons_start h4 (by omega) (Nat.le_refl _) (by omega) h2 h1 h3⟩
  case rest =>
    obtain ⟨kb, nb, bn, rfl, hco⟩ := hcut
    have HCO := Hid.mk' hco
    clear hco
    obtain ⟨S, HSS⟩ : ∃ S : Nat → List Int, Hid (S = fun j => bs (Q (j + 1)).sep) := ⟨_, rfl⟩
    go_wp2
    go_loopg [8, 9, 10] n (fun gk t8 t9 t10 wr => ∃ (i : Nat) (nd : Nat → Nat), i + gk = n ∧ t10 = .int .i64 i ∧ t9 = .int .i64 (bsz S (i - 1)) ∧ Cons w wr n i i (i - 1) kb nb bn Q nd pid t8)
    case atStart => exact ⟨0, fun _ => 0, by omega, rfl, rfl, HCO.out⟩
    case round =>
      clear HCO
      obtain ⟨i, nd, hik, rfl, rfl, hco⟩ := hrel
      have HCO := Hid.mk' hco
      clear hco
      by_cases hlt : i < n
      · have HC : Hid (∀ w', Below w.heap.size w w' → (w'.cell? ⟨p, off + i * 6, none⟩ = some (.bool (Q i).loaded) ∧ w'.cell? ⟨p, off + i * 6 + 1, none⟩ = some (.bool (Q i).dirty) ∧ w'.cell? ⟨p, off + i * 6 + 2, none⟩ = some (.int .u64 (Q i).old) ∧ w'.cell? ⟨p, off + i * 6 + 3, none⟩ = some (.string (Q i).k) ∧ w'.cell? ⟨p, off + i * 6 + 4, none⟩ = some (.string (Q i).v) ∧ w'.cell? ⟨p, off + i * 6 + 5, none⟩ = some (.string (Q i).sep))) := fun w' hb =>
          ⟨cell_stays hb (HQ.out.c0 i hlt) (Nat.le_refl _), cell_stays hb (HQ.out.c1 i hlt) (Nat.le_refl _), cell_stays hb (HQ.out.c2 i hlt) (Nat.le_refl _), cell_stays hb (HQ.out.c3 i hlt) (Nat.le_refl _), cell_stays hb (HQ.out.c4 i hlt) (Nat.le_refl _), cell_stays hb (HQ.out.c5 i hlt) (Nat.le_refl _)⟩
        obtain ⟨q0, q1, q2, q3, q4, q5⟩ := HC.out wr HCO.out.bel
        have HOK := Hid.mk' (HQ.out.ok i hlt)
        obtain ⟨q, HQI⟩ : ∃ q, Hid (q = Q i) := ⟨_, rfl⟩
        rw [← HQI.out] at q0 q1 q2 q3 q4 q5 HOK
        go_upto_region 10 with fail
        obtain ⟨cp, HCP⟩ : ∃ cp, Hid (cp = wr.heap.size) := ⟨_, rfl⟩
        have HC1 := Hid.mk' (HCO.out.more (grown_alloc wr (Obj.cells #[.bool q.loaded, .bool q.dirty, .int .u64 q.old, .string q.k, .string q.v, .string q.sep] 54)))
        have HR1 : Hid (RowAt (wr.alloc (Obj.cells #[.bool q.loaded, .bool q.dirty, .int .u64 q.old, .string q.k, .string q.v, .string q.sep] 54)) cp 54 [.bool q.loaded, .bool q.dirty, .int .u64 q.old, .string q.k, .string q.v, .string q.sep]) := by rw [HCP.out]; exact heap_alloc_new wr _
        rw [← HCP.out]
        generalize wr.alloc (Obj.cells #[.bool q.loaded, .bool q.dirty, .int .u64 q.old, .string q.k, .string q.v, .string q.sep] 54) = w1 at *
        clear q0 q1 q2 q3 q4 q5 HCP
        have m7 : w1.cell? ⟨bn, 7, none⟩ = some (.slice (some ⟨kb, 0, none⟩) n n) := HC1.out.par.cell 7
        have m2 : w1.cell? ⟨cp, 2, none⟩ = some (.int .u64 q.old) := HR1.out.cell 2
        have f1 := row_free HC1.out.kids i
        obtain ⟨x1, x2⟩ : ∃ x, w1.cell? ⟨kb, i, none⟩ = some x := ⟨_, (HC1.out.kids.cell i).trans (List.getElem?_eq_getElem (by rw [curO_length]; exact hlt))⟩
        have hnkb : kb ≠ bn := TypeAt.ne HC1.out.kids.type HC1.out.par.type (by decide)
        have hncp : kb ≠ cp := TypeAt.ne HC1.out.kids.type HR1.out.type (by decide)
        go_region_held3 (fun w' => w'.cell? ⟨bn, 7, none⟩ = some (.slice (some ⟨kb, 0, none⟩) n n) ∧ w'.cell? ⟨cp, 2, none⟩ = some (.int .u64 q.old)) (first | exact ⟨m7, m2⟩ | exact ⟨by assumption, by assumption⟩ | exact ⟨(grown_setCell _ _ _).cell m7 (fun e => by cases e; exact hnkb rfl), (grown_setCell _ _ _).cell m2 (fun e => by cases e; exact hncp rfl)⟩) (fail)
        have hsk := HC1.out.setKid (w' := w1.setCell ⟨kb, i, none⟩ (.int .u64 q.old)) (by rw [← HQI.out]; exact row_setCell HC1.out.kids) (grown_setCell w1 ⟨kb, i, none⟩ (.int .u64 q.old))
        have HC2 := Hid.mk' (hsk.more (grown_drew _))
        clear hsk
        have hr2 := HR1.out.grown (grown_setCell w1 ⟨kb, i, none⟩ (.int .u64 q.old)) (fun e => by cases e; exact hncp rfl)
        have HR2 := Hid.mk' (hr2.grown (grown_drew _) (by simp))
        clear hr2
        generalize (w1.setCell ⟨kb, i, none⟩ (.int .u64 q.old)).drew = w2 at *
        clear m7 m2 f1 x2 HC1 HR1
        go_upto_if 61 with fail
        go_cut [8, 9] from 61 to 73 (fun t8 t9 wc => t9 = .int .i64 (bsz S i) ∧ Cons w wc n (i + 1) i i kb nb bn Q nd pid t8 ∧ RowAt wc cp 54 [.bool q.loaded, .bool q.dirty, .int .u64 q.old, .string q.k, .string q.v, .string q.sep])
        case first =>
          rcases Nat.eq_zero_or_pos i with h0 | h0
          · subst h0
            go_wp2
            go_meet
            case rel => exact ⟨rfl, HC2.out, HR2.out⟩
          · obtain ⟨i26, hj, hy0, hy1, hy2⟩ := info_parts Ybaf.info26
            generalize hms : i - 1 = ms at *
            have HMS : Hid (i = ms + 1) := by show _ = _; omega
            clear hms
            have m5 : w2.cell? ⟨cp, 5, none⟩ = some (.string q.sep) := HR2.out.cell 5
            obtain ⟨xs, hox, hsx⟩ := HC2.out.seps
            have HOX := Hid.mk' hox
            have HSX := Hid.mk' hsx
            clear hox hsx
            have hmsb : ms ≤ 1000 := by have := HMS.out; omega
            have HQS : Hid (bs q.sep = S ms) := by rw [HSS.out, HQI.out, HMS.out]; rfl
            have hsb := HOK.out.s
            have hbz := bsz_le S ms (fun j hj => by
              rw [HSS.out]; simp only [bs_length]
              exact (HQ.out.ok (j + 1) (by have := HMS.out; omega)).s)
            have HBS : Hid (bsz S i = bsz S ms + (10 + q.sep.size)) := by rw [HMS.out]; show bsz S ms + (10 + (S ms).length) = _; rw [← HQS.out, bs_length]
            obtain ⟨A, HA⟩ : ∃ A, Hid (A = bsz S ms) := ⟨_, rfl⟩
            rw [← HA.out] at hbz HBS ⊢
            obtain ⟨y, HY⟩ : ∃ y, Hid (y = q.sep.size) := ⟨_, rfl⟩
            rw [← HY.out] at hsb
            obtain ⟨sp, HSP⟩ : ∃ sp, Hid (sp = q.sep) := ⟨_, rfl⟩
            rw [← HSP.out] at m5
            have hys : sp.size = y := by rw [HY.out, HSP.out]
            go_wp2_with (refine wpList_bytesT rfl (.tmp 64) rfl sp rfl ?_)
            intro w3 c3 b3 g3 z3
            have HC3 := Hid.mk' (HC2.out.more g3)
            have HR3 := Hid.mk' (HR2.out.grown g3 (by simp))
            have HOX3 : Hid (w3.ownsRow w.heap.size 26 1 _ ms xs) := HOX.out.kept g3 (by cases Value.ownBlock _ <;> simp)
            have HSX3 := Hid.mk' (HSX.out.grown g3 (Other.none _ none))
            have HB3 := Hid.mk' b3
            have HL3 : Hid (w.heap.size ≤ w3.heap.size) := HC3.out.bel.size
            clear g3 b3 z3 m5
            obtain ⟨p3, HP3⟩ : ∃ p3, Hid (p3 = w2.heap.size) := ⟨_, rfl⟩
            obtain ⟨l3, HL⟩ : ∃ l3, Hid (l3 = (bs sp).length) := ⟨_, rfl⟩
            rw [← HP3.out, ← HL.out]
            rw [← HP3.out] at HB3
            go_wp2_with (at_builtin; refine wpList_append_own_at _ rfl _ _ 25 rfl w.heap.size 26 i26 (.slice none 0 0) 1 24 Ybaf.underlying25 hj hy0 hy1 hy2 rfl (by decide) _ ms xs rfl (HOX3.out.alloc _) ⟨w3.heap.size, 0, none⟩ 1 1 [.slice (some ⟨p3, 0, none⟩) l3 c3] rfl rfl (cell_one_new _ _ _) (by simp [Value.oneCell']) (maxLen_of _ (by omega)) (by omega) ?c1 ?_)
            case c1 => simp; have := HL3.out; omega
            intro v' w4 hown hg _ hv
            have hgA := grown_alloc w3 (Obj.cells #[.slice (some ⟨p3, 0, none⟩) l3 c3] 26)
            have HR4 := Hid.mk' ((HR3.out.grown hgA (by simp)).grown hg (fun e => by
              exact TypeAt.ne (HR3.out.grown hgA (by simp)).type (own_type (HOX3.out.alloc _) cp e.symm) (by decide) rfl))
            have HC4 : Hid (Cons w w4 n (i + 1) i i kb nb bn Q nd pid v') := by
              have h := (HC3.out.more hgA).pushSep (p := p3) (c := c3) (by rw [← HMS.out, ← HQI.out, ← HSP.out]; exact HB3.out.grown hgA (Other.none _ none) (by simp)) (HSX3.out.grown hgA (Other.none _ none)) (HOX3.out.alloc _) (by have h := hown; rw [HL.out, HSP.out, HQI.out, HMS.out] at h; exact h) hg (by simpa using hv)
              rw [← HMS.out] at h
              exact h
            clear hown hg hv hgA
            have m5 : w4.cell? ⟨cp, 5, none⟩ = some (.string sp) := by rw [HSP.out]; exact HR4.out.cell 5
            go_wp2
            go_meet
            case rel => exact ⟨by rw [HBS.out, ← HY.out]; go_num, HC4.out, HR4.out⟩
        case rest =>
          obtain ⟨rfl, hco5, hcr5⟩ := hcut
          have HC5 := Hid.mk' hco5
          have HR5 := Hid.mk' hcr5
          clear hco5 hcr5 HC2 HR2
          have m0 : wc.cell? ⟨cp, 0, none⟩ = some (.bool q.loaded) := HR5.out.cell 0
          cases hl : q.loaded with
          | false =>
            rw [hl] at m0
            have HC6 : Hid (Cons w wc n (i + 1) (i + 1) i kb nb bn Q nd pid _) := HC5.out.skipNode (by rw [← HQI.out]; exact hl)
            go_wp2
            go_roundg (gk - 1)
            case rel => exact ⟨i + 1, nd, by omega, by go_num, rfl, HC6.out⟩
            case measure => omega
          | true =>
            rw [hl] at m0
            have m1 : wc.cell? ⟨cp, 1, none⟩ = some (.bool q.dirty) := HR5.out.cell 1
            have m2 : wc.cell? ⟨cp, 2, none⟩ = some (.int .u64 q.old) := HR5.out.cell 2
            have m3 : wc.cell? ⟨cp, 3, none⟩ = some (.string q.k) := HR5.out.cell 3
            have m4 : wc.cell? ⟨cp, 4, none⟩ = some (.string q.v) := HR5.out.cell 4
            have m8 : wc.cell? ⟨bn, 8, none⟩ = some (.slice (some ⟨nb, 0, none⟩) n n) := HC5.out.par.cell 8
            have hbw := run_bytesW
            have hbz := bytesW_size
            go_upto_region 15 with fail
            obtain ⟨a8, H8⟩ : ∃ a : Nat, Hid (a = 8 + q.k.size) := ⟨_, rfl⟩
            obtain ⟨z, HQZ⟩ : ∃ z : Nat, Hid (q.sz = z) := ⟨_, rfl⟩
            have e8 : IntKind.i64.wrap (8 + (q.k.size : Int)) = (a8 : Int) := by
              have := HOK.out.k
              rw [H8.out, wrapI _ (by omega) (by omega)]
              omega
            have e9 : IntKind.i64.wrap ((a8 : Int) + (q.v.size : Int)) = (z : Int) := by
              have := HOK.out.k
              have := HOK.out.v
              rw [H8.out, ← HQZ.out, wrapI _ (by omega) (by omega)]
              unfold Kid.sz
              omega
            have hi0 : (0 : Int) ≤ (i : Int) := by omega
            have hin : (i : Int) < (n : Int) := by omega
            have HN1 : Hid (bn ≠ nb) := TypeAt.ne HC5.out.par.type HC5.out.nodes.type (by decide)
            have HN2 : Hid (cp ≠ nb) := TypeAt.ne HR5.out.type HC5.out.nodes.type (by decide)
            have HT8 : Hid (∀ r, wc.heap.size ≤ r → some r ≠ Value.ownBlock u8) := fun r hr e => by
              obtain ⟨xs, s1, _⟩ := HC5.out.seps
              have := (s1.lt r e.symm).2
              omega
            refine wp_region_held_drew (S := fun w' => w'.cell? ⟨bn, 8, none⟩ = some (.slice (some ⟨nb, 0, none⟩) n n) ∧ w'.cell? ⟨cp, 1, none⟩ = some (.bool q.dirty) ∧ w'.cell? ⟨cp, 2, none⟩ = some (.int .u64 q.old) ∧ w'.cell? ⟨cp, 3, none⟩ = some (.string q.k) ∧ w'.cell? ⟨cp, 4, none⟩ = some (.string q.v)) (by kernel_rfl) ⟨m8, m1, m2, m3, m4⟩ (fun hHeld => ?_)
            have HC0 := Hid.mk' (HC5.out.more (grown_drew wc))
            have HR0 := Hid.mk' (HR5.out.grown (grown_drew wc) (by simp))
            have HZ0 : Hid (wc.heap.size ≤ wc.drew.heap.size) := Nat.le_refl _
            generalize wc.drew = W0 at *
            refine wpAnyH_take (i := 0) (v := ?v0q) rfl (by kernel_rfl) (by kernel_rfl) (by kernel_rfl) (fun _ _ _ h => h) (Or.inl ⟨by rfl, ?hy0q⟩) (by assumption) ?_
            case hy0q =>
              intro w hSw
              (try dsimp only at hSw)
              go_simp
              (try with_reducible rfl)
            (try simp only [Act.put, List.setIfInBounds_toArray, List.set_cons_zero, List.set_cons_succ])
            refine wpAnyH_take (i := 1) (v := ?v1q) rfl (by kernel_rfl) (by kernel_rfl) (by kernel_rfl) (fun _ _ _ h => h) (Or.inl ⟨by rfl, ?hy1q⟩) (by assumption) ?_
            case hy1q =>
              intro w hSw
              (try dsimp only at hSw)
              go_simp
              (try with_reducible rfl)
            (try simp only [Act.put, List.setIfInBounds_toArray, List.set_cons_zero, List.set_cons_succ])
            refine wpAnyH_take (i := 2) (v := ?v2q) rfl (by kernel_rfl) (by kernel_rfl) (by kernel_rfl) (fun _ _ _ h => h) (Or.inl ⟨by rfl, ?hy2q⟩) (by assumption) ?_
            case hy2q =>
              intro w hSw
              (try dsimp only at hSw)
              go_simp
              (try with_reducible rfl)
            (try simp only [Act.put, List.setIfInBounds_toArray, List.set_cons_zero, List.set_cons_succ])
            refine wpAnyH_take (i := 3) (v := ?v3q) rfl (by kernel_rfl) (by kernel_rfl) (by kernel_rfl) (fun _ _ _ h => h) (Or.inl ⟨by rfl, ?hy3q⟩) (by assumption) ?_
            case hy3q =>
              intro w hSw
              (try dsimp only at hSw)
              go_simp
              (try with_reducible rfl)
            (try simp only [Act.put, List.setIfInBounds_toArray, List.set_cons_zero, List.set_cons_succ])
            refine wpAnyH_take (i := 4) (v := ?v4q) rfl (by kernel_rfl) (by kernel_rfl) (by kernel_rfl) (fun _ _ _ h => h) (Or.inl ⟨by rfl, ?hy4q⟩) (by assumption) ?_
            case hy4q =>
              intro w hSw
              (try dsimp only at hSw)
              go_simp
              (try with_reducible rfl)
            (try simp only [Act.put, List.setIfInBounds_toArray, List.set_cons_zero, List.set_cons_succ])
            refine wpAnyH_take (i := 5) (v := ?v5q) rfl (by kernel_rfl) (by kernel_rfl) (by kernel_rfl) (fun _ _ _ h => h) (Or.inl ⟨by rfl, ?hy5q⟩) (by assumption) ?_
            case hy5q =>
              intro w hSw
              (try dsimp only at hSw)
              go_simp
              (try with_reducible rfl)
            (try simp only [Act.put, List.setIfInBounds_toArray, List.set_cons_zero, List.set_cons_succ])
            refine wpAnyH_take (i := 6) (v := ?v6q) rfl (by kernel_rfl) (by kernel_rfl) (by kernel_rfl) (fun _ _ _ h => h) (Or.inl ⟨by rfl, ?hy6q⟩) (by assumption) ?_
            case hy6q =>
              intro w hSw
              (try dsimp only at hSw)
              go_simp
              (try with_reducible rfl)
            (try simp only [Act.put, List.setIfInBounds_toArray, List.set_cons_zero, List.set_cons_succ])
            refine wpAnyH_take (i := 7) (v := ?v7q) rfl (by kernel_rfl) (by kernel_rfl) (by kernel_rfl) (fun _ _ _ h => h) (Or.inl ⟨by rfl, ?hy7q⟩) (by assumption) ?_
            case hy7q =>
              intro w hSw
              (try dsimp only at hSw)
              go_simp
              (try with_reducible rfl)
            (try simp only [Act.put, List.setIfInBounds_toArray, List.set_cons_zero, List.set_cons_succ])
            refine wpAnyH_take (i := 8) (v := ?v8q) rfl (by kernel_rfl) (by kernel_rfl) (by kernel_rfl) (fun _ _ _ h => h) (Or.inl ⟨by rfl, ?hy8q⟩) (by assumption) ?_
            case hy8q =>
              intro w hSw
              (try dsimp only at hSw)
              go_simp
              (try with_reducible rfl)
            (try simp only [Act.put, List.setIfInBounds_toArray, List.set_cons_zero, List.set_cons_succ])
            refine wpAnyH_take (i := 9) (v := ?v9q) rfl (by kernel_rfl) (by kernel_rfl) (by kernel_rfl) (fun _ _ _ h => h) (Or.inl ⟨by rfl, ?hy9q⟩) (by assumption) ?_
            case hy9q =>
              intro w hSw
              (try dsimp only at hSw)
              go_simp
              (try with_reducible rfl)
            (try simp only [Act.put, List.setIfInBounds_toArray, List.set_cons_zero, List.set_cons_succ])
            refine wpAnyH_take (i := 10) (v := ?v10q) rfl (by kernel_rfl) (by kernel_rfl) (by kernel_rfl) (fun _ _ _ h => h) (Or.inl ⟨by rfl, ?hy10q⟩) (by assumption) ?_
            case hy10q =>
              intro w hSw
              (try dsimp only at hSw)
              go_simp
              (try with_reducible rfl)
            (try simp only [Act.put, List.setIfInBounds_toArray, List.set_cons_zero, List.set_cons_succ])
            refine wpAnyH_take (i := 13) (v := ?v13q) rfl (by kernel_rfl) (by kernel_rfl) (by kernel_rfl) (fun _ _ _ h => h) (Or.inl ⟨by rfl, ?hy13q⟩) (by assumption) ?_
            case hy13q =>
              intro w hSw
              (try dsimp only at hSw)
              go_simp
              (try with_reducible rfl)
            (try simp only [Act.put, List.setIfInBounds_toArray, List.set_cons_zero, List.set_cons_succ])
            refine wpAnyH_take (i := 14) (v := ?v14q) rfl (by kernel_rfl) (by kernel_rfl) (by kernel_rfl) (fun _ _ _ h => h) (Or.inl ⟨by rfl, ?hy14q⟩) (by assumption) ?_
            case hy14q =>
              intro w hSw
              (try dsimp only at hSw)
              go_simp
              (try with_reducible rfl)
            (try simp only [Act.put, List.setIfInBounds_toArray, List.set_cons_zero, List.set_cons_succ])
            refine wpAnyH_take (i := 17) (v := ?v17q) rfl (by kernel_rfl) (by kernel_rfl) (by kernel_rfl) (fun _ _ _ h => h) (Or.inl ⟨by rfl, ?hy17q⟩) (by assumption) ?_
            case hy17q =>
              intro w hSw
              (try dsimp only at hSw)
              go_simp
              (try with_reducible rfl)
            (try simp only [Act.put, List.setIfInBounds_toArray, List.set_cons_zero, List.set_cons_succ])
            refine wpAnyH_take (i := 18) (v := ?v18q) rfl (by kernel_rfl) (by kernel_rfl) (by kernel_rfl) (fun _ _ _ h => h) (Or.inl ⟨by rfl, ?hy18q⟩) (by assumption) ?_
            case hy18q =>
              intro w hSw
              (try dsimp only at hSw)
              go_simp
              (try with_reducible rfl)
            (try simp only [Act.put, List.setIfInBounds_toArray, List.set_cons_zero, List.set_cons_succ])
            refine wpAnyH_take (i := 19) (v := ?v19q) rfl (by kernel_rfl) (by kernel_rfl) (by kernel_rfl) (fun _ _ _ h => h) (Or.inl ⟨by rfl, ?hy19q⟩) (by assumption) ?_
            case hy19q =>
              intro w hSw
              (try dsimp only at hSw)
              go_simp
              (try with_reducible rfl)
            (try simp only [Act.put, List.setIfInBounds_toArray, List.set_cons_zero, List.set_cons_succ])
            refine wpAnyH_take (i := 20) (v := ?v20q) rfl (by kernel_rfl) (by kernel_rfl) (by kernel_rfl) (fun _ _ _ h => h) (Or.inl ⟨by rfl, ?hy20q⟩) (by assumption) ?_
            case hy20q =>
              intro w hSw
              (try dsimp only at hSw)
              go_simp
              (try with_reducible rfl)
            (try simp only [Act.put, List.setIfInBounds_toArray, List.set_cons_zero, List.set_cons_succ])
            refine wpAnyH_take (i := 21) (v := ?v21q) rfl (by kernel_rfl) (by kernel_rfl) (by kernel_rfl) (fun _ _ _ h => h) (Or.inl ⟨by rfl, ?hy21q⟩) (by assumption) ?_
            case hy21q =>
              intro w hSw
              (try dsimp only at hSw)
              go_simp
              (try with_reducible rfl)
            (try simp only [Act.put, List.setIfInBounds_toArray, List.set_cons_zero, List.set_cons_succ])
            refine wpAnyH_take (i := 22) (v := ?v22q) rfl (by kernel_rfl) (by kernel_rfl) (by kernel_rfl) (fun _ _ _ h => h) (Or.inl ⟨by rfl, ?hy22q⟩) (by assumption) ?_
            case hy22q =>
              intro w hSw
              (try dsimp only at hSw)
              go_simp
              (try with_reducible rfl)
            (try simp only [Act.put, List.setIfInBounds_toArray, List.set_cons_zero, List.set_cons_succ])
            refine wpAnyH_take (i := 23) (v := ?v23q) rfl (by kernel_rfl) (by kernel_rfl) (by kernel_rfl) (fun _ _ _ h => h) (Or.inl ⟨by rfl, ?hy23q⟩) (by assumption) ?_
            case hy23q =>
              intro w hSw
              (try dsimp only at hSw)
              go_simp
              (try with_reducible rfl)
            (try simp only [Act.put, List.setIfInBounds_toArray, List.set_cons_zero, List.set_cons_succ])
            refine wpAnyH_take (i := 24) (v := ?v24q) rfl (by kernel_rfl) (by kernel_rfl) (by kernel_rfl) (fun _ _ _ h => h) (Or.inl ⟨by rfl, ?hy24q⟩) (by assumption) ?_
            case hy24q =>
              intro w hSw
              (try dsimp only at hSw)
              go_simp
              (try with_reducible rfl)
            (try simp only [Act.put, List.setIfInBounds_toArray, List.set_cons_zero, List.set_cons_succ])
            refine wpAnyH_ready (rs := [11, 15]) (by kernel_rfl) (by simp) ?_
            refine AllReadyH.cons (i := 11) rfl (fun K hK => ?_) ?_
            · go_simp
              refine hK.out _ _ (keep5 hHeld (bytesW_grown _ _) (by simp) (by simp) (by simp) (by simp) (by simp)) (fun hHeld' => ?_)
              clear hK K hHeld
              (try simp only [Act.put, List.setIfInBounds_toArray, List.set_cons_zero, List.set_cons_succ])
              have hg := bytesW_grown W0 q.k
              have hbt := bytesW_at W0 q.k
              obtain ⟨kp, HPK⟩ : ∃ z, Hid (z = W0.heap.size) := ⟨_, rfl⟩
              rw [← HPK.out] at hbt ⊢
              generalize bytesW W0 q.k = Wn1 at *
              generalize bytesC W0 q.k = kc at *
              have HCn1 := Hid.mk' (HC0.out.more hg)
              have HRn1 := Hid.mk' (HR0.out.grown hg (by simp))
              have HZn1 : Hid (wc.heap.size ≤ Wn1.heap.size) := Nat.le_trans HZ0.out (World.grownBy.size hg)
              have HBKn1 := Hid.mk' hbt
              have hHeld := hHeld'
              clear hg hbt hHeld'
              refine wpAnyH_ready (rs := [12, 15]) (by kernel_rfl) (by simp) ?_
              refine AllReadyH.cons (i := 12) rfl (fun K hK => ?_) ?_
              · go_simp
                refine hK.out _ _ (keep5 hHeld (grown_alloc _ _) (by simp) (by simp) (by simp) (by simp) (by simp)) (fun hHeld' => ?_)
                clear hK K hHeld
                (try simp only [Act.put, List.setIfInBounds_toArray, List.set_cons_zero, List.set_cons_succ])
                have hg := grown_alloc Wn1 (Obj.cells #[.slice (some ⟨kp, 0, none⟩) q.k.size kc] 26)
                have hbt : RowAt (Wn1.alloc (Obj.cells #[.slice (some ⟨kp, 0, none⟩) q.k.size kc] 26)) Wn1.heap.size 26 [.slice (some ⟨kp, 0, none⟩) q.k.size kc] := heap_alloc_new Wn1 _
                obtain ⟨kr, HPKb⟩ : ∃ z, Hid (z = Wn1.heap.size) := ⟨_, rfl⟩
                have HXKb : Hid (wc.heap.size ≤ kr) := by rw [HPKb.out]; exact HZn1.out
                rw [← HPKb.out] at hbt ⊢
                generalize Wn1.alloc (Obj.cells #[.slice (some ⟨kp, 0, none⟩) q.k.size kc] 26) = Wn2 at *
                have HCn2 := Hid.mk' (HCn1.out.more hg)
                have HRn2 := Hid.mk' (HRn1.out.grown hg (by simp))
                have HZn2 : Hid (wc.heap.size ≤ Wn2.heap.size) := Nat.le_trans HZn1.out (World.grownBy.size hg)
                have HBKn2 := Hid.mk' (HBKn1.out.grown hg (Other.none _ none) (World.grownBy.size hg))
                have HRKn2 := Hid.mk' hbt
                have hHeld := hHeld'
                clear hg hbt hHeld'
                refine wpAnyH_ready (rs := [15]) (by kernel_rfl) (by simp) ?_
                refine AllReadyH.cons (i := 15) rfl (fun K hK => ?_) AllReadyH.nil
                go_simp
                refine hK.out _ _ (keep5 hHeld (bytesW_grown _ _) (by simp) (by simp) (by simp) (by simp) (by simp)) (fun hHeld' => ?_)
                clear hK K hHeld
                (try simp only [Act.put, List.setIfInBounds_toArray, List.set_cons_zero, List.set_cons_succ])
                have hg := bytesW_grown Wn2 q.v
                have hbt := bytesW_at Wn2 q.v
                obtain ⟨vp, HPV⟩ : ∃ z, Hid (z = Wn2.heap.size) := ⟨_, rfl⟩
                rw [← HPV.out] at hbt ⊢
                generalize bytesW Wn2 q.v = Wn3 at *
                generalize bytesC Wn2 q.v = vc at *
                have HCn3 := Hid.mk' (HCn2.out.more hg)
                have HRn3 := Hid.mk' (HRn2.out.grown hg (by simp))
                have HZn3 : Hid (wc.heap.size ≤ Wn3.heap.size) := Nat.le_trans HZn2.out (World.grownBy.size hg)
                have HBKn3 := Hid.mk' (HBKn2.out.grown hg (Other.none _ none) (World.grownBy.size hg))
                have HRKn3 := Hid.mk' (HRKn2.out.grown hg (by simp))
                have HBVn3 := Hid.mk' hbt
                have hHeld := hHeld'
                clear hg hbt hHeld'
                refine wpAnyH_ready (rs := [16]) (by kernel_rfl) (by simp) ?_
                refine AllReadyH.cons (i := 16) rfl (fun K hK => ?_) AllReadyH.nil
                go_simp
                refine hK.out _ _ (keep5 hHeld (grown_alloc _ _) (by simp) (by simp) (by simp) (by simp) (by simp)) (fun hHeld' => ?_)
                clear hK K hHeld
                (try simp only [Act.put, List.setIfInBounds_toArray, List.set_cons_zero, List.set_cons_succ])
                have hg := grown_alloc Wn3 (Obj.cells #[.slice (some ⟨vp, 0, none⟩) q.v.size vc] 26)
                have hbt : RowAt (Wn3.alloc (Obj.cells #[.slice (some ⟨vp, 0, none⟩) q.v.size vc] 26)) Wn3.heap.size 26 [.slice (some ⟨vp, 0, none⟩) q.v.size vc] := heap_alloc_new Wn3 _
                obtain ⟨vr, HPVb⟩ : ∃ z, Hid (z = Wn3.heap.size) := ⟨_, rfl⟩
                have HXVb : Hid (wc.heap.size ≤ vr) := by rw [HPVb.out]; exact HZn3.out
                rw [← HPVb.out] at hbt ⊢
                generalize Wn3.alloc (Obj.cells #[.slice (some ⟨vp, 0, none⟩) q.v.size vc] 26) = Wn4 at *
                have HCn4 := Hid.mk' (HCn3.out.more hg)
                have HRn4 := Hid.mk' (HRn3.out.grown hg (by simp))
                have HZn4 : Hid (wc.heap.size ≤ Wn4.heap.size) := Nat.le_trans HZn3.out (World.grownBy.size hg)
                have HBKn4 := Hid.mk' (HBKn3.out.grown hg (Other.none _ none) (World.grownBy.size hg))
                have HBVn4 := Hid.mk' (HBVn3.out.grown hg (Other.none _ none) (World.grownBy.size hg))
                have HRKn4 := Hid.mk' (HRKn3.out.grown hg (by simp))
                have HRVn4 := Hid.mk' hbt
                have hHeld := hHeld'
                clear hg hbt hHeld'
                refine wpAnyH_take (i := 25) (v := ?v25pKKbVVb) rfl (by kernel_rfl) (by kernel_rfl) (by kernel_rfl) (fun _ _ _ h => h) (Or.inl ⟨by rfl, ?hy25pKKbVVb⟩) (by assumption) ?_
                case hy25pKKbVVb =>
                  intro w hSw
                  (try dsimp only at hSw)
                  go_simp
                  (try with_reducible rfl)
                (try simp only [Act.put, List.setIfInBounds_toArray, List.set_cons_zero, List.set_cons_succ])
                refine wpAnyH_ready (rs := [26]) (by kernel_rfl) (by simp) ?_
                refine AllReadyH.cons (i := 26) rfl (fun K hK => ?_) AllReadyH.nil
                go_simp
                refine hK.out _ _ (keep5 hHeld (grown_alloc _ _) (by simp) (by simp) (by simp) (by simp) (by simp)) (fun hHeld' => ?_)
                clear hK K hHeld
                (try simp only [Act.put, List.setIfInBounds_toArray, List.set_cons_zero, List.set_cons_succ])
                have hg := grown_alloc Wn4 (Obj.cells #[.int .u64 q.old, .bool q.dirty, .bool true, .slice none 0 0, .slice none 0 0, .slice (some ⟨kr, 0, none⟩) 1 1, .slice (some ⟨vr, 0, none⟩) 1 1, .slice none 0 0, .slice none 0 0, .int .i64 z] 34)
                have hbt : RowAt (Wn4.alloc (Obj.cells #[.int .u64 q.old, .bool q.dirty, .bool true, .slice none 0 0, .slice none 0 0, .slice (some ⟨kr, 0, none⟩) 1 1, .slice (some ⟨vr, 0, none⟩) 1 1, .slice none 0 0, .slice none 0 0, .int .i64 z] 34)) Wn4.heap.size 34 (nodeRow q.old q.dirty true (.slice (some ⟨kr, 0, none⟩) 1 1) (.slice (some ⟨vr, 0, none⟩) 1 1) (.slice none 0 0) (.slice none 0 0) z) := heap_alloc_new Wn4 _
                obtain ⟨b1, HB1⟩ : ∃ x, Hid (x = Wn4.heap.size) := ⟨_, rfl⟩
                have HZB : Hid (wc.heap.size ≤ b1) := by rw [HB1.out]; exact HZn4.out
                rw [← HB1.out] at hbt ⊢
                generalize Wn4.alloc (Obj.cells #[.int .u64 q.old, .bool q.dirty, .bool true, .slice none 0 0, .slice none 0 0, .slice (some ⟨kr, 0, none⟩) 1 1, .slice (some ⟨vr, 0, none⟩) 1 1, .slice none 0 0, .slice none 0 0, .int .i64 z] 34) = Wn5 at *
                have HCn5 := Hid.mk' (HCn4.out.more hg)
                have HRn5 := Hid.mk' (HRn4.out.grown hg (by simp))
                have HZn5 : Hid (wc.heap.size ≤ Wn5.heap.size) := Nat.le_trans HZn4.out (World.grownBy.size hg)
                have HBKn5 := Hid.mk' (HBKn4.out.grown hg (Other.none _ none) (World.grownBy.size hg))
                have HBVn5 := Hid.mk' (HBVn4.out.grown hg (Other.none _ none) (World.grownBy.size hg))
                have HRKn5 := Hid.mk' (HRKn4.out.grown hg (by simp))
                have HRVn5 := Hid.mk' (HRVn4.out.grown hg (by simp))
                have HND := Hid.mk' hbt
                have hHeld := hHeld'
                clear hg hbt hHeld'
                refine wpAnyH_take (i := 27) (v := ?v27pKKbVVb) rfl (by kernel_rfl) (by kernel_rfl) (by kernel_rfl) (fun _ _ _ h => h) (Or.inl ⟨by rfl, ?hy27pKKbVVb⟩) (by assumption) ?_
                case hy27pKKbVVb =>
                  intro w hSw
                  (try dsimp only at hSw)
                  go_simp
                  (try with_reducible rfl)
                (try simp only [Act.put, List.setIfInBounds_toArray, List.set_cons_zero, List.set_cons_succ])
                obtain ⟨x1, x2⟩ : ∃ x, Wn5.cell? ⟨nb, i, none⟩ = some x := ⟨_, (HCn5.out.nodes.cell i).trans (List.getElem?_eq_getElem (by rw [ptrsO_length]; exact hlt))⟩
                have f1 := row_free HCn5.out.nodes i
                refine wpAnyH_ready (rs := [28]) (by kernel_rfl) (by simp) ?_
                refine AllReadyH.cons (i := 28) rfl (fun K hK => ?_) AllReadyH.nil
                go_simp
                refine hK.out _ _ (keep5 hHeld (grown_setCell _ _ _) (by simpa using HN1.out) (by simpa using HN2.out) (by simpa using HN2.out) (by simpa using HN2.out) (by simpa using HN2.out)) (fun hHeld' => ?_)
                clear hK K hHeld
                refine wpAnyH_done (by kernel_rfl) ?_ _
                have HFIN : Hid (Cons w (Wn5.setCell ⟨nb, i, none⟩ (.pointer (some ⟨b1, 0, none⟩))) n (i + 1) (i + 1) i kb nb bn Q (fun j => if j = i then b1 else nd j) pid u8) := by
                  refine HCn5.out.setNode (by rw [← HQI.out]; exact hl) ?_ (Nat.le_trans HC5.out.bel.size HZB.out) ?_ ?_ (row_setCell HCn5.out.nodes) (grown_setCell Wn5 ⟨nb, i, none⟩ (.pointer (some ⟨b1, 0, none⟩)))
                  · rw [← HQI.out]
                    refine ⟨kr, vr, kp, vp, kc, vc, HND.out.lt, HRKn5.out.lt, HRVn5.out.lt, by rw [HQZ.out]; exact HND.out, by rw [bs_length]; exact HRKn5.out, by rw [bs_length]; exact HRVn5.out, HBKn5.out, HBVn5.out, HT8.out kr HXKb.out, HT8.out vr HXVb.out⟩
                  · have := HC5.out.par.lt; have := HZB.out; omega
                  · intro j hj hjl
                    have h := (HC5.out.left j hj hjl).1.kid.type.2
                    have := HZB.out
                    omega
                clear x2 f1 hHeld'
                go_wp2
                go_roundg (gk - 1)
                case rel => exact ⟨i + 1, _, by omega, by go_num, rfl, HFIN.out⟩
                case measure => omega
              refine AllReadyH.cons (i := 15) rfl (fun K hK => ?_) AllReadyH.nil
              go_simp
              refine hK.out _ _ (keep5 hHeld (bytesW_grown _ _) (by simp) (by simp) (by simp) (by simp) (by simp)) (fun hHeld' => ?_)
              clear hK K hHeld
              (try simp only [Act.put, List.setIfInBounds_toArray, List.set_cons_zero, List.set_cons_succ])
              have hg := bytesW_grown Wn1 q.v
              have hbt := bytesW_at Wn1 q.v
              obtain ⟨vp, HPV⟩ : ∃ z, Hid (z = Wn1.heap.size) := ⟨_, rfl⟩
              rw [← HPV.out] at hbt ⊢
              generalize bytesW Wn1 q.v = Wn6 at *
              generalize bytesC Wn1 q.v = vc at *
              have HCn6 := Hid.mk' (HCn1.out.more hg)
              have HRn6 := Hid.mk' (HRn1.out.grown hg (by simp))
              have HZn6 : Hid (wc.heap.size ≤ Wn6.heap.size) := Nat.le_trans HZn1.out (World.grownBy.size hg)
              have HBKn6 := Hid.mk' (HBKn1.out.grown hg (Other.none _ none) (World.grownBy.size hg))
              have HBVn6 := Hid.mk' hbt
              have hHeld := hHeld'
              clear hg hbt hHeld'
              refine wpAnyH_ready (rs := [12, 16]) (by kernel_rfl) (by simp) ?_
              refine AllReadyH.cons (i := 12) rfl (fun K hK => ?_) ?_
              · go_simp
                refine hK.out _ _ (keep5 hHeld (grown_alloc _ _) (by simp) (by simp) (by simp) (by simp) (by simp)) (fun hHeld' => ?_)
                clear hK K hHeld
                (try simp only [Act.put, List.setIfInBounds_toArray, List.set_cons_zero, List.set_cons_succ])
                have hg := grown_alloc Wn6 (Obj.cells #[.slice (some ⟨kp, 0, none⟩) q.k.size kc] 26)
                have hbt : RowAt (Wn6.alloc (Obj.cells #[.slice (some ⟨kp, 0, none⟩) q.k.size kc] 26)) Wn6.heap.size 26 [.slice (some ⟨kp, 0, none⟩) q.k.size kc] := heap_alloc_new Wn6 _
                obtain ⟨kr, HPKb⟩ : ∃ z, Hid (z = Wn6.heap.size) := ⟨_, rfl⟩
                have HXKb : Hid (wc.heap.size ≤ kr) := by rw [HPKb.out]; exact HZn6.out
                rw [← HPKb.out] at hbt ⊢
                generalize Wn6.alloc (Obj.cells #[.slice (some ⟨kp, 0, none⟩) q.k.size kc] 26) = Wn7 at *
                have HCn7 := Hid.mk' (HCn6.out.more hg)
                have HRn7 := Hid.mk' (HRn6.out.grown hg (by simp))
                have HZn7 : Hid (wc.heap.size ≤ Wn7.heap.size) := Nat.le_trans HZn6.out (World.grownBy.size hg)
                have HBKn7 := Hid.mk' (HBKn6.out.grown hg (Other.none _ none) (World.grownBy.size hg))
                have HBVn7 := Hid.mk' (HBVn6.out.grown hg (Other.none _ none) (World.grownBy.size hg))
                have HRKn7 := Hid.mk' hbt
                have hHeld := hHeld'
                clear hg hbt hHeld'
                refine wpAnyH_ready (rs := [16]) (by kernel_rfl) (by simp) ?_
                refine AllReadyH.cons (i := 16) rfl (fun K hK => ?_) AllReadyH.nil
                go_simp
                refine hK.out _ _ (keep5 hHeld (grown_alloc _ _) (by simp) (by simp) (by simp) (by simp) (by simp)) (fun hHeld' => ?_)
                clear hK K hHeld
                (try simp only [Act.put, List.setIfInBounds_toArray, List.set_cons_zero, List.set_cons_succ])
                have hg := grown_alloc Wn7 (Obj.cells #[.slice (some ⟨vp, 0, none⟩) q.v.size vc] 26)
                have hbt : RowAt (Wn7.alloc (Obj.cells #[.slice (some ⟨vp, 0, none⟩) q.v.size vc] 26)) Wn7.heap.size 26 [.slice (some ⟨vp, 0, none⟩) q.v.size vc] := heap_alloc_new Wn7 _
                obtain ⟨vr, HPVb⟩ : ∃ z, Hid (z = Wn7.heap.size) := ⟨_, rfl⟩
                have HXVb : Hid (wc.heap.size ≤ vr) := by rw [HPVb.out]; exact HZn7.out
                rw [← HPVb.out] at hbt ⊢
                generalize Wn7.alloc (Obj.cells #[.slice (some ⟨vp, 0, none⟩) q.v.size vc] 26) = Wn8 at *
                have HCn8 := Hid.mk' (HCn7.out.more hg)
                have HRn8 := Hid.mk' (HRn7.out.grown hg (by simp))
                have HZn8 : Hid (wc.heap.size ≤ Wn8.heap.size) := Nat.le_trans HZn7.out (World.grownBy.size hg)
                have HBKn8 := Hid.mk' (HBKn7.out.grown hg (Other.none _ none) (World.grownBy.size hg))
                have HBVn8 := Hid.mk' (HBVn7.out.grown hg (Other.none _ none) (World.grownBy.size hg))
                have HRKn8 := Hid.mk' (HRKn7.out.grown hg (by simp))
                have HRVn8 := Hid.mk' hbt
                have hHeld := hHeld'
                clear hg hbt hHeld'
                refine wpAnyH_take (i := 25) (v := ?v25pKVKbVb) rfl (by kernel_rfl) (by kernel_rfl) (by kernel_rfl) (fun _ _ _ h => h) (Or.inl ⟨by rfl, ?hy25pKVKbVb⟩) (by assumption) ?_
                case hy25pKVKbVb =>
                  intro w hSw
                  (try dsimp only at hSw)
                  go_simp
                  (try with_reducible rfl)
                (try simp only [Act.put, List.setIfInBounds_toArray, List.set_cons_zero, List.set_cons_succ])
                refine wpAnyH_ready (rs := [26]) (by kernel_rfl) (by simp) ?_
                refine AllReadyH.cons (i := 26) rfl (fun K hK => ?_) AllReadyH.nil
                go_simp
                refine hK.out _ _ (keep5 hHeld (grown_alloc _ _) (by simp) (by simp) (by simp) (by simp) (by simp)) (fun hHeld' => ?_)
                clear hK K hHeld
                (try simp only [Act.put, List.setIfInBounds_toArray, List.set_cons_zero, List.set_cons_succ])
                have hg := grown_alloc Wn8 (Obj.cells #[.int .u64 q.old, .bool q.dirty, .bool true, .slice none 0 0, .slice none 0 0, .slice (some ⟨kr, 0, none⟩) 1 1, .slice (some ⟨vr, 0, none⟩) 1 1, .slice none 0 0, .slice none 0 0, .int .i64 z] 34)
                have hbt : RowAt (Wn8.alloc (Obj.cells #[.int .u64 q.old, .bool q.dirty, .bool true, .slice none 0 0, .slice none 0 0, .slice (some ⟨kr, 0, none⟩) 1 1, .slice (some ⟨vr, 0, none⟩) 1 1, .slice none 0 0, .slice none 0 0, .int .i64 z] 34)) Wn8.heap.size 34 (nodeRow q.old q.dirty true (.slice (some ⟨kr, 0, none⟩) 1 1) (.slice (some ⟨vr, 0, none⟩) 1 1) (.slice none 0 0) (.slice none 0 0) z) := heap_alloc_new Wn8 _
                obtain ⟨b1, HB1⟩ : ∃ x, Hid (x = Wn8.heap.size) := ⟨_, rfl⟩
                have HZB : Hid (wc.heap.size ≤ b1) := by rw [HB1.out]; exact HZn8.out
                rw [← HB1.out] at hbt ⊢
                generalize Wn8.alloc (Obj.cells #[.int .u64 q.old, .bool q.dirty, .bool true, .slice none 0 0, .slice none 0 0, .slice (some ⟨kr, 0, none⟩) 1 1, .slice (some ⟨vr, 0, none⟩) 1 1, .slice none 0 0, .slice none 0 0, .int .i64 z] 34) = Wn9 at *
                have HCn9 := Hid.mk' (HCn8.out.more hg)
                have HRn9 := Hid.mk' (HRn8.out.grown hg (by simp))
                have HZn9 : Hid (wc.heap.size ≤ Wn9.heap.size) := Nat.le_trans HZn8.out (World.grownBy.size hg)
                have HBKn9 := Hid.mk' (HBKn8.out.grown hg (Other.none _ none) (World.grownBy.size hg))
                have HBVn9 := Hid.mk' (HBVn8.out.grown hg (Other.none _ none) (World.grownBy.size hg))
                have HRKn9 := Hid.mk' (HRKn8.out.grown hg (by simp))
                have HRVn9 := Hid.mk' (HRVn8.out.grown hg (by simp))
                have HND := Hid.mk' hbt
                have hHeld := hHeld'
                clear hg hbt hHeld'
                refine wpAnyH_take (i := 27) (v := ?v27pKVKbVb) rfl (by kernel_rfl) (by kernel_rfl) (by kernel_rfl) (fun _ _ _ h => h) (Or.inl ⟨by rfl, ?hy27pKVKbVb⟩) (by assumption) ?_
                case hy27pKVKbVb =>
                  intro w hSw
                  (try dsimp only at hSw)
                  go_simp
                  (try with_reducible rfl)
                (try simp only [Act.put, List.setIfInBounds_toArray, List.set_cons_zero, List.set_cons_succ])
                obtain ⟨x1, x2⟩ : ∃ x, Wn9.cell? ⟨nb, i, none⟩ = some x := ⟨_, (HCn9.out.nodes.cell i).trans (List.getElem?_eq_getElem (by rw [ptrsO_length]; exact hlt))⟩
                have f1 := row_free HCn9.out.nodes i
                refine wpAnyH_ready (rs := [28]) (by kernel_rfl) (by simp) ?_
                refine AllReadyH.cons (i := 28) rfl (fun K hK => ?_) AllReadyH.nil
                go_simp
                refine hK.out _ _ (keep5 hHeld (grown_setCell _ _ _) (by simpa using HN1.out) (by simpa using HN2.out) (by simpa using HN2.out) (by simpa using HN2.out) (by simpa using HN2.out)) (fun hHeld' => ?_)
                clear hK K hHeld
                refine wpAnyH_done (by kernel_rfl) ?_ _
                have HFIN : Hid (Cons w (Wn9.setCell ⟨nb, i, none⟩ (.pointer (some ⟨b1, 0, none⟩))) n (i + 1) (i + 1) i kb nb bn Q (fun j => if j = i then b1 else nd j) pid u8) := by
                  refine HCn9.out.setNode (by rw [← HQI.out]; exact hl) ?_ (Nat.le_trans HC5.out.bel.size HZB.out) ?_ ?_ (row_setCell HCn9.out.nodes) (grown_setCell Wn9 ⟨nb, i, none⟩ (.pointer (some ⟨b1, 0, none⟩)))
                  · rw [← HQI.out]
                    refine ⟨kr, vr, kp, vp, kc, vc, HND.out.lt, HRKn9.out.lt, HRVn9.out.lt, by rw [HQZ.out]; exact HND.out, by rw [bs_length]; exact HRKn9.out, by rw [bs_length]; exact HRVn9.out, HBKn9.out, HBVn9.out, HT8.out kr HXKb.out, HT8.out vr HXVb.out⟩
                  · have := HC5.out.par.lt; have := HZB.out; omega
                  · intro j hj hjl
                    have h := (HC5.out.left j hj hjl).1.kid.type.2
                    have := HZB.out
                    omega
                clear x2 f1 hHeld'
                go_wp2
                go_roundg (gk - 1)
                case rel => exact ⟨i + 1, _, by omega, by go_num, rfl, HFIN.out⟩
                case measure => omega
              refine AllReadyH.cons (i := 16) rfl (fun K hK => ?_) AllReadyH.nil
              go_simp
              refine hK.out _ _ (keep5 hHeld (grown_alloc _ _) (by simp) (by simp) (by simp) (by simp) (by simp)) (fun hHeld' => ?_)
              clear hK K hHeld
              (try simp only [Act.put, List.setIfInBounds_toArray, List.set_cons_zero, List.set_cons_succ])
              have hg := grown_alloc Wn6 (Obj.cells #[.slice (some ⟨vp, 0, none⟩) q.v.size vc] 26)
              have hbt : RowAt (Wn6.alloc (Obj.cells #[.slice (some ⟨vp, 0, none⟩) q.v.size vc] 26)) Wn6.heap.size 26 [.slice (some ⟨vp, 0, none⟩) q.v.size vc] := heap_alloc_new Wn6 _
              obtain ⟨vr, HPVb⟩ : ∃ z, Hid (z = Wn6.heap.size) := ⟨_, rfl⟩
              have HXVb : Hid (wc.heap.size ≤ vr) := by rw [HPVb.out]; exact HZn6.out
              rw [← HPVb.out] at hbt ⊢
              generalize Wn6.alloc (Obj.cells #[.slice (some ⟨vp, 0, none⟩) q.v.size vc] 26) = Wn10 at *
              have HCn10 := Hid.mk' (HCn6.out.more hg)
              have HRn10 := Hid.mk' (HRn6.out.grown hg (by simp))
              have HZn10 : Hid (wc.heap.size ≤ Wn10.heap.size) := Nat.le_trans HZn6.out (World.grownBy.size hg)
              have HBKn10 := Hid.mk' (HBKn6.out.grown hg (Other.none _ none) (World.grownBy.size hg))
              have HBVn10 := Hid.mk' (HBVn6.out.grown hg (Other.none _ none) (World.grownBy.size hg))
              have HRVn10 := Hid.mk' hbt
              have hHeld := hHeld'
              clear hg hbt hHeld'
              refine wpAnyH_ready (rs := [12]) (by kernel_rfl) (by simp) ?_
              refine AllReadyH.cons (i := 12) rfl (fun K hK => ?_) AllReadyH.nil
              go_simp
              refine hK.out _ _ (keep5 hHeld (grown_alloc _ _) (by simp) (by simp) (by simp) (by simp) (by simp)) (fun hHeld' => ?_)
              clear hK K hHeld
              (try simp only [Act.put, List.setIfInBounds_toArray, List.set_cons_zero, List.set_cons_succ])
              have hg := grown_alloc Wn10 (Obj.cells #[.slice (some ⟨kp, 0, none⟩) q.k.size kc] 26)
              have hbt : RowAt (Wn10.alloc (Obj.cells #[.slice (some ⟨kp, 0, none⟩) q.k.size kc] 26)) Wn10.heap.size 26 [.slice (some ⟨kp, 0, none⟩) q.k.size kc] := heap_alloc_new Wn10 _
              obtain ⟨kr, HPKb⟩ : ∃ z, Hid (z = Wn10.heap.size) := ⟨_, rfl⟩
              have HXKb : Hid (wc.heap.size ≤ kr) := by rw [HPKb.out]; exact HZn10.out
              rw [← HPKb.out] at hbt ⊢
              generalize Wn10.alloc (Obj.cells #[.slice (some ⟨kp, 0, none⟩) q.k.size kc] 26) = Wn11 at *
              have HCn11 := Hid.mk' (HCn10.out.more hg)
              have HRn11 := Hid.mk' (HRn10.out.grown hg (by simp))
              have HZn11 : Hid (wc.heap.size ≤ Wn11.heap.size) := Nat.le_trans HZn10.out (World.grownBy.size hg)
              have HBKn11 := Hid.mk' (HBKn10.out.grown hg (Other.none _ none) (World.grownBy.size hg))
              have HBVn11 := Hid.mk' (HBVn10.out.grown hg (Other.none _ none) (World.grownBy.size hg))
              have HRVn11 := Hid.mk' (HRVn10.out.grown hg (by simp))
              have HRKn11 := Hid.mk' hbt
              have hHeld := hHeld'
              clear hg hbt hHeld'
              refine wpAnyH_take (i := 25) (v := ?v25pKVVbKb) rfl (by kernel_rfl) (by kernel_rfl) (by kernel_rfl) (fun _ _ _ h => h) (Or.inl ⟨by rfl, ?hy25pKVVbKb⟩) (by assumption) ?_
              case hy25pKVVbKb =>
                intro w hSw
                (try dsimp only at hSw)
                go_simp
                (try with_reducible rfl)
              (try simp only [Act.put, List.setIfInBounds_toArray, List.set_cons_zero, List.set_cons_succ])
              refine wpAnyH_ready (rs := [26]) (by kernel_rfl) (by simp) ?_
              refine AllReadyH.cons (i := 26) rfl (fun K hK => ?_) AllReadyH.nil
              go_simp
              refine hK.out _ _ (keep5 hHeld (grown_alloc _ _) (by simp) (by simp) (by simp) (by simp) (by simp)) (fun hHeld' => ?_)
              clear hK K hHeld
              (try simp only [Act.put, List.setIfInBounds_toArray, List.set_cons_zero, List.set_cons_succ])
              have hg := grown_alloc Wn11 (Obj.cells #[.int .u64 q.old, .bool q.dirty, .bool true, .slice none 0 0, .slice none 0 0, .slice (some ⟨kr, 0, none⟩) 1 1, .slice (some ⟨vr, 0, none⟩) 1 1, .slice none 0 0, .slice none 0 0, .int .i64 z] 34)
              have hbt : RowAt (Wn11.alloc (Obj.cells #[.int .u64 q.old, .bool q.dirty, .bool true, .slice none 0 0, .slice none 0 0, .slice (some ⟨kr, 0, none⟩) 1 1, .slice (some ⟨vr, 0, none⟩) 1 1, .slice none 0 0, .slice none 0 0, .int .i64 z] 34)) Wn11.heap.size 34 (nodeRow q.old q.dirty true (.slice (some ⟨kr, 0, none⟩) 1 1) (.slice (some ⟨vr, 0, none⟩) 1 1) (.slice none 0 0) (.slice none 0 0) z) := heap_alloc_new Wn11 _
              obtain ⟨b1, HB1⟩ : ∃ x, Hid (x = Wn11.heap.size) := ⟨_, rfl⟩
              have HZB : Hid (wc.heap.size ≤ b1) := by rw [HB1.out]; exact HZn11.out
              rw [← HB1.out] at hbt ⊢
              generalize Wn11.alloc (Obj.cells #[.int .u64 q.old, .bool q.dirty, .bool true, .slice none 0 0, .slice none 0 0, .slice (some ⟨kr, 0, none⟩) 1 1, .slice (some ⟨vr, 0, none⟩) 1 1, .slice none 0 0, .slice none 0 0, .int .i64 z] 34) = Wn12 at *
              have HCn12 := Hid.mk' (HCn11.out.more hg)
              have HRn12 := Hid.mk' (HRn11.out.grown hg (by simp))
              have HZn12 : Hid (wc.heap.size ≤ Wn12.heap.size) := Nat.le_trans HZn11.out (World.grownBy.size hg)
              have HBKn12 := Hid.mk' (HBKn11.out.grown hg (Other.none _ none) (World.grownBy.size hg))
              have HBVn12 := Hid.mk' (HBVn11.out.grown hg (Other.none _ none) (World.grownBy.size hg))
              have HRKn12 := Hid.mk' (HRKn11.out.grown hg (by simp))
              have HRVn12 := Hid.mk' (HRVn11.out.grown hg (by simp))
              have HND := Hid.mk' hbt
              have hHeld := hHeld'
              clear hg hbt hHeld'
              refine wpAnyH_take (i := 27) (v := ?v27pKVVbKb) rfl (by kernel_rfl) (by kernel_rfl) (by kernel_rfl) (fun _ _ _ h => h) (Or.inl ⟨by rfl, ?hy27pKVVbKb⟩) (by assumption) ?_
              case hy27pKVVbKb =>
                intro w hSw
                (try dsimp only at hSw)
                go_simp
                (try with_reducible rfl)
              (try simp only [Act.put, List.setIfInBounds_toArray, List.set_cons_zero, List.set_cons_succ])
              obtain ⟨x1, x2⟩ : ∃ x, Wn12.cell? ⟨nb, i, none⟩ = some x := ⟨_, (HCn12.out.nodes.cell i).trans (List.getElem?_eq_getElem (by rw [ptrsO_length]; exact hlt))⟩
              have f1 := row_free HCn12.out.nodes i
              refine wpAnyH_ready (rs := [28]) (by kernel_rfl) (by simp) ?_
              refine AllReadyH.cons (i := 28) rfl (fun K hK => ?_) AllReadyH.nil
              go_simp
              refine hK.out _ _ (keep5 hHeld (grown_setCell _ _ _) (by simpa using HN1.out) (by simpa using HN2.out) (by simpa using HN2.out) (by simpa using HN2.out) (by simpa using HN2.out)) (fun hHeld' => ?_)
              clear hK K hHeld
              refine wpAnyH_done (by kernel_rfl) ?_ _
              have HFIN : Hid (Cons w (Wn12.setCell ⟨nb, i, none⟩ (.pointer (some ⟨b1, 0, none⟩))) n (i + 1) (i + 1) i kb nb bn Q (fun j => if j = i then b1 else nd j) pid u8) := by
                refine HCn12.out.setNode (by rw [← HQI.out]; exact hl) ?_ (Nat.le_trans HC5.out.bel.size HZB.out) ?_ ?_ (row_setCell HCn12.out.nodes) (grown_setCell Wn12 ⟨nb, i, none⟩ (.pointer (some ⟨b1, 0, none⟩)))
                · rw [← HQI.out]
                  refine ⟨kr, vr, kp, vp, kc, vc, HND.out.lt, HRKn12.out.lt, HRVn12.out.lt, by rw [HQZ.out]; exact HND.out, by rw [bs_length]; exact HRKn12.out, by rw [bs_length]; exact HRVn12.out, HBKn12.out, HBVn12.out, HT8.out kr HXKb.out, HT8.out vr HXVb.out⟩
                · have := HC5.out.par.lt; have := HZB.out; omega
                · intro j hj hjl
                  have h := (HC5.out.left j hj hjl).1.kid.type.2
                  have := HZB.out
                  omega
              clear x2 f1 hHeld'
              go_wp2
              go_roundg (gk - 1)
              case rel => exact ⟨i + 1, _, by omega, by go_num, rfl, HFIN.out⟩
              case measure => omega
            refine AllReadyH.cons (i := 15) rfl (fun K hK => ?_) AllReadyH.nil
            go_simp
            refine hK.out _ _ (keep5 hHeld (bytesW_grown _ _) (by simp) (by simp) (by simp) (by simp) (by simp)) (fun hHeld' => ?_)
            clear hK K hHeld
            (try simp only [Act.put, List.setIfInBounds_toArray, List.set_cons_zero, List.set_cons_succ])
            have hg := bytesW_grown W0 q.v
            have hbt := bytesW_at W0 q.v
            obtain ⟨vp, HPV⟩ : ∃ z, Hid (z = W0.heap.size) := ⟨_, rfl⟩
            rw [← HPV.out] at hbt ⊢
            generalize bytesW W0 q.v = Wn13 at *
            generalize bytesC W0 q.v = vc at *
            have HCn13 := Hid.mk' (HC0.out.more hg)
            have HRn13 := Hid.mk' (HR0.out.grown hg (by simp))
            have HZn13 : Hid (wc.heap.size ≤ Wn13.heap.size) := Nat.le_trans HZ0.out (World.grownBy.size hg)
            have HBVn13 := Hid.mk' hbt
            have hHeld := hHeld'
            clear hg hbt hHeld'
            refine wpAnyH_ready (rs := [11, 16]) (by kernel_rfl) (by simp) ?_
            refine AllReadyH.cons (i := 11) rfl (fun K hK => ?_) ?_
            · go_simp
              refine hK.out _ _ (keep5 hHeld (bytesW_grown _ _) (by simp) (by simp) (by simp) (by simp) (by simp)) (fun hHeld' => ?_)
              clear hK K hHeld
              (try simp only [Act.put, List.setIfInBounds_toArray, List.set_cons_zero, List.set_cons_succ])
              have hg := bytesW_grown Wn13 q.k
              have hbt := bytesW_at Wn13 q.k
              obtain ⟨kp, HPK⟩ : ∃ z, Hid (z = Wn13.heap.size) := ⟨_, rfl⟩
              rw [← HPK.out] at hbt ⊢
              generalize bytesW Wn13 q.k = Wn14 at *
              generalize bytesC Wn13 q.k = kc at *
              have HCn14 := Hid.mk' (HCn13.out.more hg)
              have HRn14 := Hid.mk' (HRn13.out.grown hg (by simp))
              have HZn14 : Hid (wc.heap.size ≤ Wn14.heap.size) := Nat.le_trans HZn13.out (World.grownBy.size hg)
              have HBVn14 := Hid.mk' (HBVn13.out.grown hg (Other.none _ none) (World.grownBy.size hg))
              have HBKn14 := Hid.mk' hbt
              have hHeld := hHeld'
              clear hg hbt hHeld'
              refine wpAnyH_ready (rs := [12, 16]) (by kernel_rfl) (by simp) ?_
              refine AllReadyH.cons (i := 12) rfl (fun K hK => ?_) ?_
              · go_simp
                refine hK.out _ _ (keep5 hHeld (grown_alloc _ _) (by simp) (by simp) (by simp) (by simp) (by simp)) (fun hHeld' => ?_)
                clear hK K hHeld
                (try simp only [Act.put, List.setIfInBounds_toArray, List.set_cons_zero, List.set_cons_succ])
                have hg := grown_alloc Wn14 (Obj.cells #[.slice (some ⟨kp, 0, none⟩) q.k.size kc] 26)
                have hbt : RowAt (Wn14.alloc (Obj.cells #[.slice (some ⟨kp, 0, none⟩) q.k.size kc] 26)) Wn14.heap.size 26 [.slice (some ⟨kp, 0, none⟩) q.k.size kc] := heap_alloc_new Wn14 _
                obtain ⟨kr, HPKb⟩ : ∃ z, Hid (z = Wn14.heap.size) := ⟨_, rfl⟩
                have HXKb : Hid (wc.heap.size ≤ kr) := by rw [HPKb.out]; exact HZn14.out
                rw [← HPKb.out] at hbt ⊢
                generalize Wn14.alloc (Obj.cells #[.slice (some ⟨kp, 0, none⟩) q.k.size kc] 26) = Wn15 at *
                have HCn15 := Hid.mk' (HCn14.out.more hg)
                have HRn15 := Hid.mk' (HRn14.out.grown hg (by simp))
                have HZn15 : Hid (wc.heap.size ≤ Wn15.heap.size) := Nat.le_trans HZn14.out (World.grownBy.size hg)
                have HBKn15 := Hid.mk' (HBKn14.out.grown hg (Other.none _ none) (World.grownBy.size hg))
                have HBVn15 := Hid.mk' (HBVn14.out.grown hg (Other.none _ none) (World.grownBy.size hg))
                have HRKn15 := Hid.mk' hbt
                have hHeld := hHeld'
                clear hg hbt hHeld'
                refine wpAnyH_ready (rs := [16]) (by kernel_rfl) (by simp) ?_
                refine AllReadyH.cons (i := 16) rfl (fun K hK => ?_) AllReadyH.nil
                go_simp
                refine hK.out _ _ (keep5 hHeld (grown_alloc _ _) (by simp) (by simp) (by simp) (by simp) (by simp)) (fun hHeld' => ?_)
                clear hK K hHeld
                (try simp only [Act.put, List.setIfInBounds_toArray, List.set_cons_zero, List.set_cons_succ])
                have hg := grown_alloc Wn15 (Obj.cells #[.slice (some ⟨vp, 0, none⟩) q.v.size vc] 26)
                have hbt : RowAt (Wn15.alloc (Obj.cells #[.slice (some ⟨vp, 0, none⟩) q.v.size vc] 26)) Wn15.heap.size 26 [.slice (some ⟨vp, 0, none⟩) q.v.size vc] := heap_alloc_new Wn15 _
                obtain ⟨vr, HPVb⟩ : ∃ z, Hid (z = Wn15.heap.size) := ⟨_, rfl⟩
                have HXVb : Hid (wc.heap.size ≤ vr) := by rw [HPVb.out]; exact HZn15.out
                rw [← HPVb.out] at hbt ⊢
                generalize Wn15.alloc (Obj.cells #[.slice (some ⟨vp, 0, none⟩) q.v.size vc] 26) = Wn16 at *
                have HCn16 := Hid.mk' (HCn15.out.more hg)
                have HRn16 := Hid.mk' (HRn15.out.grown hg (by simp))
                have HZn16 : Hid (wc.heap.size ≤ Wn16.heap.size) := Nat.le_trans HZn15.out (World.grownBy.size hg)
                have HBKn16 := Hid.mk' (HBKn15.out.grown hg (Other.none _ none) (World.grownBy.size hg))
                have HBVn16 := Hid.mk' (HBVn15.out.grown hg (Other.none _ none) (World.grownBy.size hg))
                have HRKn16 := Hid.mk' (HRKn15.out.grown hg (by simp))
                have HRVn16 := Hid.mk' hbt
                have hHeld := hHeld'
                clear hg hbt hHeld'
                refine wpAnyH_take (i := 25) (v := ?v25pVKKbVb) rfl (by kernel_rfl) (by kernel_rfl) (by kernel_rfl) (fun _ _ _ h => h) (Or.inl ⟨by rfl, ?hy25pVKKbVb⟩) (by assumption) ?_
                case hy25pVKKbVb =>
                  intro w hSw
                  (try dsimp only at hSw)
                  go_simp
                  (try with_reducible rfl)
                (try simp only [Act.put, List.setIfInBounds_toArray, List.set_cons_zero, List.set_cons_succ])
                refine wpAnyH_ready (rs := [26]) (by kernel_rfl) (by simp) ?_
                refine AllReadyH.cons (i := 26) rfl (fun K hK => ?_) AllReadyH.nil
                go_simp
                refine hK.out _ _ (keep5 hHeld (grown_alloc _ _) (by simp) (by simp) (by simp) (by simp) (by simp)) (fun hHeld' => ?_)
                clear hK K hHeld
                (try simp only [Act.put, List.setIfInBounds_toArray, List.set_cons_zero, List.set_cons_succ])
                have hg := grown_alloc Wn16 (Obj.cells #[.int .u64 q.old, .bool q.dirty, .bool true, .slice none 0 0, .slice none 0 0, .slice (some ⟨kr, 0, none⟩) 1 1, .slice (some ⟨vr, 0, none⟩) 1 1, .slice none 0 0, .slice none 0 0, .int .i64 z] 34)
                have hbt : RowAt (Wn16.alloc (Obj.cells #[.int .u64 q.old, .bool q.dirty, .bool true, .slice none 0 0, .slice none 0 0, .slice (some ⟨kr, 0, none⟩) 1 1, .slice (some ⟨vr, 0, none⟩) 1 1, .slice none 0 0, .slice none 0 0, .int .i64 z] 34)) Wn16.heap.size 34 (nodeRow q.old q.dirty true (.slice (some ⟨kr, 0, none⟩) 1 1) (.slice (some ⟨vr, 0, none⟩) 1 1) (.slice none 0 0) (.slice none 0 0) z) := heap_alloc_new Wn16 _
                obtain ⟨b1, HB1⟩ : ∃ x, Hid (x = Wn16.heap.size) := ⟨_, rfl⟩
                have HZB : Hid (wc.heap.size ≤ b1) := by rw [HB1.out]; exact HZn16.out
                rw [← HB1.out] at hbt ⊢
                generalize Wn16.alloc (Obj.cells #[.int .u64 q.old, .bool q.dirty, .bool true, .slice none 0 0, .slice none 0 0, .slice (some ⟨kr, 0, none⟩) 1 1, .slice (some ⟨vr, 0, none⟩) 1 1, .slice none 0 0, .slice none 0 0, .int .i64 z] 34) = Wn17 at *
                have HCn17 := Hid.mk' (HCn16.out.more hg)
                have HRn17 := Hid.mk' (HRn16.out.grown hg (by simp))
                have HZn17 : Hid (wc.heap.size ≤ Wn17.heap.size) := Nat.le_trans HZn16.out (World.grownBy.size hg)
                have HBKn17 := Hid.mk' (HBKn16.out.grown hg (Other.none _ none) (World.grownBy.size hg))
                have HBVn17 := Hid.mk' (HBVn16.out.grown hg (Other.none _ none) (World.grownBy.size hg))
                have HRKn17 := Hid.mk' (HRKn16.out.grown hg (by simp))
                have HRVn17 := Hid.mk' (HRVn16.out.grown hg (by simp))
                have HND := Hid.mk' hbt
                have hHeld := hHeld'
                clear hg hbt hHeld'
                refine wpAnyH_take (i := 27) (v := ?v27pVKKbVb) rfl (by kernel_rfl) (by kernel_rfl) (by kernel_rfl) (fun _ _ _ h => h) (Or.inl ⟨by rfl, ?hy27pVKKbVb⟩) (by assumption) ?_
                case hy27pVKKbVb =>
                  intro w hSw
                  (try dsimp only at hSw)
                  go_simp
                  (try with_reducible rfl)
                (try simp only [Act.put, List.setIfInBounds_toArray, List.set_cons_zero, List.set_cons_succ])
                obtain ⟨x1, x2⟩ : ∃ x, Wn17.cell? ⟨nb, i, none⟩ = some x := ⟨_, (HCn17.out.nodes.cell i).trans (List.getElem?_eq_getElem (by rw [ptrsO_length]; exact hlt))⟩
                have f1 := row_free HCn17.out.nodes i
                refine wpAnyH_ready (rs := [28]) (by kernel_rfl) (by simp) ?_
                refine AllReadyH.cons (i := 28) rfl (fun K hK => ?_) AllReadyH.nil
                go_simp
                refine hK.out _ _ (keep5 hHeld (grown_setCell _ _ _) (by simpa using HN1.out) (by simpa using HN2.out) (by simpa using HN2.out) (by simpa using HN2.out) (by simpa using HN2.out)) (fun hHeld' => ?_)
                clear hK K hHeld
                refine wpAnyH_done (by kernel_rfl) ?_ _
                have HFIN : Hid (Cons w (Wn17.setCell ⟨nb, i, none⟩ (.pointer (some ⟨b1, 0, none⟩))) n (i + 1) (i + 1) i kb nb bn Q (fun j => if j = i then b1 else nd j) pid u8) := by
                  refine HCn17.out.setNode (by rw [← HQI.out]; exact hl) ?_ (Nat.le_trans HC5.out.bel.size HZB.out) ?_ ?_ (row_setCell HCn17.out.nodes) (grown_setCell Wn17 ⟨nb, i, none⟩ (.pointer (some ⟨b1, 0, none⟩)))
                  · rw [← HQI.out]
                    refine ⟨kr, vr, kp, vp, kc, vc, HND.out.lt, HRKn17.out.lt, HRVn17.out.lt, by rw [HQZ.out]; exact HND.out, by rw [bs_length]; exact HRKn17.out, by rw [bs_length]; exact HRVn17.out, HBKn17.out, HBVn17.out, HT8.out kr HXKb.out, HT8.out vr HXVb.out⟩
                  · have := HC5.out.par.lt; have := HZB.out; omega
                  · intro j hj hjl
                    have h := (HC5.out.left j hj hjl).1.kid.type.2
                    have := HZB.out
                    omega
                clear x2 f1 hHeld'
                go_wp2
                go_roundg (gk - 1)
                case rel => exact ⟨i + 1, _, by omega, by go_num, rfl, HFIN.out⟩
                case measure => omega
              refine AllReadyH.cons (i := 16) rfl (fun K hK => ?_) AllReadyH.nil
              go_simp
              refine hK.out _ _ (keep5 hHeld (grown_alloc _ _) (by simp) (by simp) (by simp) (by simp) (by simp)) (fun hHeld' => ?_)
              clear hK K hHeld
              (try simp only [Act.put, List.setIfInBounds_toArray, List.set_cons_zero, List.set_cons_succ])
              have hg := grown_alloc Wn14 (Obj.cells #[.slice (some ⟨vp, 0, none⟩) q.v.size vc] 26)
              have hbt : RowAt (Wn14.alloc (Obj.cells #[.slice (some ⟨vp, 0, none⟩) q.v.size vc] 26)) Wn14.heap.size 26 [.slice (some ⟨vp, 0, none⟩) q.v.size vc] := heap_alloc_new Wn14 _
              obtain ⟨vr, HPVb⟩ : ∃ z, Hid (z = Wn14.heap.size) := ⟨_, rfl⟩
              have HXVb : Hid (wc.heap.size ≤ vr) := by rw [HPVb.out]; exact HZn14.out
              rw [← HPVb.out] at hbt ⊢
              generalize Wn14.alloc (Obj.cells #[.slice (some ⟨vp, 0, none⟩) q.v.size vc] 26) = Wn18 at *
              have HCn18 := Hid.mk' (HCn14.out.more hg)
              have HRn18 := Hid.mk' (HRn14.out.grown hg (by simp))
              have HZn18 : Hid (wc.heap.size ≤ Wn18.heap.size) := Nat.le_trans HZn14.out (World.grownBy.size hg)
              have HBKn18 := Hid.mk' (HBKn14.out.grown hg (Other.none _ none) (World.grownBy.size hg))
              have HBVn18 := Hid.mk' (HBVn14.out.grown hg (Other.none _ none) (World.grownBy.size hg))
              have HRVn18 := Hid.mk' hbt
              have hHeld := hHeld'
              clear hg hbt hHeld'
              refine wpAnyH_ready (rs := [12]) (by kernel_rfl) (by simp) ?_
              refine AllReadyH.cons (i := 12) rfl (fun K hK => ?_) AllReadyH.nil
              go_simp
              refine hK.out _ _ (keep5 hHeld (grown_alloc _ _) (by simp) (by simp) (by simp) (by simp) (by simp)) (fun hHeld' => ?_)
              clear hK K hHeld
              (try simp only [Act.put, List.setIfInBounds_toArray, List.set_cons_zero, List.set_cons_succ])
              have hg := grown_alloc Wn18 (Obj.cells #[.slice (some ⟨kp, 0, none⟩) q.k.size kc] 26)
              have hbt : RowAt (Wn18.alloc (Obj.cells #[.slice (some ⟨kp, 0, none⟩) q.k.size kc] 26)) Wn18.heap.size 26 [.slice (some ⟨kp, 0, none⟩) q.k.size kc] := heap_alloc_new Wn18 _
              obtain ⟨kr, HPKb⟩ : ∃ z, Hid (z = Wn18.heap.size) := ⟨_, rfl⟩
              have HXKb : Hid (wc.heap.size ≤ kr) := by rw [HPKb.out]; exact HZn18.out
              rw [← HPKb.out] at hbt ⊢
              generalize Wn18.alloc (Obj.cells #[.slice (some ⟨kp, 0, none⟩) q.k.size kc] 26) = Wn19 at *
              have HCn19 := Hid.mk' (HCn18.out.more hg)
              have HRn19 := Hid.mk' (HRn18.out.grown hg (by simp))
              have HZn19 : Hid (wc.heap.size ≤ Wn19.heap.size) := Nat.le_trans HZn18.out (World.grownBy.size hg)
              have HBKn19 := Hid.mk' (HBKn18.out.grown hg (Other.none _ none) (World.grownBy.size hg))
              have HBVn19 := Hid.mk' (HBVn18.out.grown hg (Other.none _ none) (World.grownBy.size hg))
              have HRVn19 := Hid.mk' (HRVn18.out.grown hg (by simp))
              have HRKn19 := Hid.mk' hbt
              have hHeld := hHeld'
              clear hg hbt hHeld'
              refine wpAnyH_take (i := 25) (v := ?v25pVKVbKb) rfl (by kernel_rfl) (by kernel_rfl) (by kernel_rfl) (fun _ _ _ h => h) (Or.inl ⟨by rfl, ?hy25pVKVbKb⟩) (by assumption) ?_
              case hy25pVKVbKb =>
                intro w hSw
                (try dsimp only at hSw)
                go_simp
                (try with_reducible rfl)
              (try simp only [Act.put, List.setIfInBounds_toArray, List.set_cons_zero, List.set_cons_succ])
              refine wpAnyH_ready (rs := [26]) (by kernel_rfl) (by simp) ?_
              refine AllReadyH.cons (i := 26) rfl (fun K hK => ?_) AllReadyH.nil
              go_simp
              refine hK.out _ _ (keep5 hHeld (grown_alloc _ _) (by simp) (by simp) (by simp) (by simp) (by simp)) (fun hHeld' => ?_)
              clear hK K hHeld
              (try simp only [Act.put, List.setIfInBounds_toArray, List.set_cons_zero, List.set_cons_succ])
              have hg := grown_alloc Wn19 (Obj.cells #[.int .u64 q.old, .bool q.dirty, .bool true, .slice none 0 0, .slice none 0 0, .slice (some ⟨kr, 0, none⟩) 1 1, .slice (some ⟨vr, 0, none⟩) 1 1, .slice none 0 0, .slice none 0 0, .int .i64 z] 34)
              have hbt : RowAt (Wn19.alloc (Obj.cells #[.int .u64 q.old, .bool q.dirty, .bool true, .slice none 0 0, .slice none 0 0, .slice (some ⟨kr, 0, none⟩) 1 1, .slice (some ⟨vr, 0, none⟩) 1 1, .slice none 0 0, .slice none 0 0, .int .i64 z] 34)) Wn19.heap.size 34 (nodeRow q.old q.dirty true (.slice (some ⟨kr, 0, none⟩) 1 1) (.slice (some ⟨vr, 0, none⟩) 1 1) (.slice none 0 0) (.slice none 0 0) z) := heap_alloc_new Wn19 _
              obtain ⟨b1, HB1⟩ : ∃ x, Hid (x = Wn19.heap.size) := ⟨_, rfl⟩
              have HZB : Hid (wc.heap.size ≤ b1) := by rw [HB1.out]; exact HZn19.out
              rw [← HB1.out] at hbt ⊢
              generalize Wn19.alloc (Obj.cells #[.int .u64 q.old, .bool q.dirty, .bool true, .slice none 0 0, .slice none 0 0, .slice (some ⟨kr, 0, none⟩) 1 1, .slice (some ⟨vr, 0, none⟩) 1 1, .slice none 0 0, .slice none 0 0, .int .i64 z] 34) = Wn20 at *
              have HCn20 := Hid.mk' (HCn19.out.more hg)
              have HRn20 := Hid.mk' (HRn19.out.grown hg (by simp))
              have HZn20 : Hid (wc.heap.size ≤ Wn20.heap.size) := Nat.le_trans HZn19.out (World.grownBy.size hg)
              have HBKn20 := Hid.mk' (HBKn19.out.grown hg (Other.none _ none) (World.grownBy.size hg))
              have HBVn20 := Hid.mk' (HBVn19.out.grown hg (Other.none _ none) (World.grownBy.size hg))
              have HRKn20 := Hid.mk' (HRKn19.out.grown hg (by simp))
              have HRVn20 := Hid.mk' (HRVn19.out.grown hg (by simp))
              have HND := Hid.mk' hbt
              have hHeld := hHeld'
              clear hg hbt hHeld'
              refine wpAnyH_take (i := 27) (v := ?v27pVKVbKb) rfl (by kernel_rfl) (by kernel_rfl) (by kernel_rfl) (fun _ _ _ h => h) (Or.inl ⟨by rfl, ?hy27pVKVbKb⟩) (by assumption) ?_
              case hy27pVKVbKb =>
                intro w hSw
                (try dsimp only at hSw)
                go_simp
                (try with_reducible rfl)
              (try simp only [Act.put, List.setIfInBounds_toArray, List.set_cons_zero, List.set_cons_succ])
              obtain ⟨x1, x2⟩ : ∃ x, Wn20.cell? ⟨nb, i, none⟩ = some x := ⟨_, (HCn20.out.nodes.cell i).trans (List.getElem?_eq_getElem (by rw [ptrsO_length]; exact hlt))⟩
              have f1 := row_free HCn20.out.nodes i
              refine wpAnyH_ready (rs := [28]) (by kernel_rfl) (by simp) ?_
              refine AllReadyH.cons (i := 28) rfl (fun K hK => ?_) AllReadyH.nil
              go_simp
              refine hK.out _ _ (keep5 hHeld (grown_setCell _ _ _) (by simpa using HN1.out) (by simpa using HN2.out) (by simpa using HN2.out) (by simpa using HN2.out) (by simpa using HN2.out)) (fun hHeld' => ?_)
              clear hK K hHeld
              refine wpAnyH_done (by kernel_rfl) ?_ _
              have HFIN : Hid (Cons w (Wn20.setCell ⟨nb, i, none⟩ (.pointer (some ⟨b1, 0, none⟩))) n (i + 1) (i + 1) i kb nb bn Q (fun j => if j = i then b1 else nd j) pid u8) := by
                refine HCn20.out.setNode (by rw [← HQI.out]; exact hl) ?_ (Nat.le_trans HC5.out.bel.size HZB.out) ?_ ?_ (row_setCell HCn20.out.nodes) (grown_setCell Wn20 ⟨nb, i, none⟩ (.pointer (some ⟨b1, 0, none⟩)))
                · rw [← HQI.out]
                  refine ⟨kr, vr, kp, vp, kc, vc, HND.out.lt, HRKn20.out.lt, HRVn20.out.lt, by rw [HQZ.out]; exact HND.out, by rw [bs_length]; exact HRKn20.out, by rw [bs_length]; exact HRVn20.out, HBKn20.out, HBVn20.out, HT8.out kr HXKb.out, HT8.out vr HXVb.out⟩
                · have := HC5.out.par.lt; have := HZB.out; omega
                · intro j hj hjl
                  have h := (HC5.out.left j hj hjl).1.kid.type.2
                  have := HZB.out
                  omega
              clear x2 f1 hHeld'
              go_wp2
              go_roundg (gk - 1)
              case rel => exact ⟨i + 1, _, by omega, by go_num, rfl, HFIN.out⟩
              case measure => omega
            refine AllReadyH.cons (i := 16) rfl (fun K hK => ?_) AllReadyH.nil
            go_simp
            refine hK.out _ _ (keep5 hHeld (grown_alloc _ _) (by simp) (by simp) (by simp) (by simp) (by simp)) (fun hHeld' => ?_)
            clear hK K hHeld
            (try simp only [Act.put, List.setIfInBounds_toArray, List.set_cons_zero, List.set_cons_succ])
            have hg := grown_alloc Wn13 (Obj.cells #[.slice (some ⟨vp, 0, none⟩) q.v.size vc] 26)
            have hbt : RowAt (Wn13.alloc (Obj.cells #[.slice (some ⟨vp, 0, none⟩) q.v.size vc] 26)) Wn13.heap.size 26 [.slice (some ⟨vp, 0, none⟩) q.v.size vc] := heap_alloc_new Wn13 _
            obtain ⟨vr, HPVb⟩ : ∃ z, Hid (z = Wn13.heap.size) := ⟨_, rfl⟩
            have HXVb : Hid (wc.heap.size ≤ vr) := by rw [HPVb.out]; exact HZn13.out
            rw [← HPVb.out] at hbt ⊢
            generalize Wn13.alloc (Obj.cells #[.slice (some ⟨vp, 0, none⟩) q.v.size vc] 26) = Wn21 at *
            have HCn21 := Hid.mk' (HCn13.out.more hg)
            have HRn21 := Hid.mk' (HRn13.out.grown hg (by simp))
            have HZn21 : Hid (wc.heap.size ≤ Wn21.heap.size) := Nat.le_trans HZn13.out (World.grownBy.size hg)
            have HBVn21 := Hid.mk' (HBVn13.out.grown hg (Other.none _ none) (World.grownBy.size hg))
            have HRVn21 := Hid.mk' hbt
            have hHeld := hHeld'
            clear hg hbt hHeld'
            refine wpAnyH_ready (rs := [11]) (by kernel_rfl) (by simp) ?_
            refine AllReadyH.cons (i := 11) rfl (fun K hK => ?_) AllReadyH.nil
            go_simp
            refine hK.out _ _ (keep5 hHeld (bytesW_grown _ _) (by simp) (by simp) (by simp) (by simp) (by simp)) (fun hHeld' => ?_)
            clear hK K hHeld
            (try simp only [Act.put, List.setIfInBounds_toArray, List.set_cons_zero, List.set_cons_succ])
            have hg := bytesW_grown Wn21 q.k
            have hbt := bytesW_at Wn21 q.k
            obtain ⟨kp, HPK⟩ : ∃ z, Hid (z = Wn21.heap.size) := ⟨_, rfl⟩
            rw [← HPK.out] at hbt ⊢
            generalize bytesW Wn21 q.k = Wn22 at *
            generalize bytesC Wn21 q.k = kc at *
            have HCn22 := Hid.mk' (HCn21.out.more hg)
            have HRn22 := Hid.mk' (HRn21.out.grown hg (by simp))
            have HZn22 : Hid (wc.heap.size ≤ Wn22.heap.size) := Nat.le_trans HZn21.out (World.grownBy.size hg)
            have HBVn22 := Hid.mk' (HBVn21.out.grown hg (Other.none _ none) (World.grownBy.size hg))
            have HRVn22 := Hid.mk' (HRVn21.out.grown hg (by simp))
            have HBKn22 := Hid.mk' hbt
            have hHeld := hHeld'
            clear hg hbt hHeld'
            refine wpAnyH_ready (rs := [12]) (by kernel_rfl) (by simp) ?_
            refine AllReadyH.cons (i := 12) rfl (fun K hK => ?_) AllReadyH.nil
            go_simp
            refine hK.out _ _ (keep5 hHeld (grown_alloc _ _) (by simp) (by simp) (by simp) (by simp) (by simp)) (fun hHeld' => ?_)
            clear hK K hHeld
            (try simp only [Act.put, List.setIfInBounds_toArray, List.set_cons_zero, List.set_cons_succ])
            have hg := grown_alloc Wn22 (Obj.cells #[.slice (some ⟨kp, 0, none⟩) q.k.size kc] 26)
            have hbt : RowAt (Wn22.alloc (Obj.cells #[.slice (some ⟨kp, 0, none⟩) q.k.size kc] 26)) Wn22.heap.size 26 [.slice (some ⟨kp, 0, none⟩) q.k.size kc] := heap_alloc_new Wn22 _
            obtain ⟨kr, HPKb⟩ : ∃ z, Hid (z = Wn22.heap.size) := ⟨_, rfl⟩
            have HXKb : Hid (wc.heap.size ≤ kr) := by rw [HPKb.out]; exact HZn22.out
            rw [← HPKb.out] at hbt ⊢
            generalize Wn22.alloc (Obj.cells #[.slice (some ⟨kp, 0, none⟩) q.k.size kc] 26) = Wn23 at *
            have HCn23 := Hid.mk' (HCn22.out.more hg)
            have HRn23 := Hid.mk' (HRn22.out.grown hg (by simp))
            have HZn23 : Hid (wc.heap.size ≤ Wn23.heap.size) := Nat.le_trans HZn22.out (World.grownBy.size hg)
            have HBKn23 := Hid.mk' (HBKn22.out.grown hg (Other.none _ none) (World.grownBy.size hg))
            have HBVn23 := Hid.mk' (HBVn22.out.grown hg (Other.none _ none) (World.grownBy.size hg))
            have HRVn23 := Hid.mk' (HRVn22.out.grown hg (by simp))
            have HRKn23 := Hid.mk' hbt
            have hHeld := hHeld'
            clear hg hbt hHeld'
            refine wpAnyH_take (i := 25) (v := ?v25pVVbKKb) rfl (by kernel_rfl) (by kernel_rfl) (by kernel_rfl) (fun _ _ _ h => h) (Or.inl ⟨by rfl, ?hy25pVVbKKb⟩) (by assumption) ?_
            case hy25pVVbKKb =>
              intro w hSw
              (try dsimp only at hSw)
              go_simp
              (try with_reducible rfl)
            (try simp only [Act.put, List.setIfInBounds_toArray, List.set_cons_zero, List.set_cons_succ])
            refine wpAnyH_ready (rs := [26]) (by kernel_rfl) (by simp) ?_
            refine AllReadyH.cons (i := 26) rfl (fun K hK => ?_) AllReadyH.nil
            go_simp
            refine hK.out _ _ (keep5 hHeld (grown_alloc _ _) (by simp) (by simp) (by simp) (by simp) (by simp)) (fun hHeld' => ?_)
            clear hK K hHeld
            (try simp only [Act.put, List.setIfInBounds_toArray, List.set_cons_zero, List.set_cons_succ])
            have hg := grown_alloc Wn23 (Obj.cells #[.int .u64 q.old, .bool q.dirty, .bool true, .slice none 0 0, .slice none 0 0, .slice (some ⟨kr, 0, none⟩) 1 1, .slice (some ⟨vr, 0, none⟩) 1 1, .slice none 0 0, .slice none 0 0, .int .i64 z] 34)
            have hbt : RowAt (Wn23.alloc (Obj.cells #[.int .u64 q.old, .bool q.dirty, .bool true, .slice none 0 0, .slice none 0 0, .slice (some ⟨kr, 0, none⟩) 1 1, .slice (some ⟨vr, 0, none⟩) 1 1, .slice none 0 0, .slice none 0 0, .int .i64 z] 34)) Wn23.heap.size 34 (nodeRow q.old q.dirty true (.slice (some ⟨kr, 0, none⟩) 1 1) (.slice (some ⟨vr, 0, none⟩) 1 1) (.slice none 0 0) (.slice none 0 0) z) := heap_alloc_new Wn23 _
            obtain ⟨b1, HB1⟩ : ∃ x, Hid (x = Wn23.heap.size) := ⟨_, rfl⟩
            have HZB : Hid (wc.heap.size ≤ b1) := by rw [HB1.out]; exact HZn23.out
            rw [← HB1.out] at hbt ⊢
            generalize Wn23.alloc (Obj.cells #[.int .u64 q.old, .bool q.dirty, .bool true, .slice none 0 0, .slice none 0 0, .slice (some ⟨kr, 0, none⟩) 1 1, .slice (some ⟨vr, 0, none⟩) 1 1, .slice none 0 0, .slice none 0 0, .int .i64 z] 34) = Wn24 at *
            have HCn24 := Hid.mk' (HCn23.out.more hg)
            have HRn24 := Hid.mk' (HRn23.out.grown hg (by simp))
            have HZn24 : Hid (wc.heap.size ≤ Wn24.heap.size) := Nat.le_trans HZn23.out (World.grownBy.size hg)
            have HBKn24 := Hid.mk' (HBKn23.out.grown hg (Other.none _ none) (World.grownBy.size hg))
            have HBVn24 := Hid.mk' (HBVn23.out.grown hg (Other.none _ none) (World.grownBy.size hg))
            have HRKn24 := Hid.mk' (HRKn23.out.grown hg (by simp))
            have HRVn24 := Hid.mk' (HRVn23.out.grown hg (by simp))
            have HND := Hid.mk' hbt
            have hHeld := hHeld'
            clear hg hbt hHeld'
            refine wpAnyH_take (i := 27) (v := ?v27pVVbKKb) rfl (by kernel_rfl) (by kernel_rfl) (by kernel_rfl) (fun _ _ _ h => h) (Or.inl ⟨by rfl, ?hy27pVVbKKb⟩) (by assumption) ?_
            case hy27pVVbKKb =>
              intro w hSw
              (try dsimp only at hSw)
              go_simp
              (try with_reducible rfl)
            (try simp only [Act.put, List.setIfInBounds_toArray, List.set_cons_zero, List.set_cons_succ])
            obtain ⟨x1, x2⟩ : ∃ x, Wn24.cell? ⟨nb, i, none⟩ = some x := ⟨_, (HCn24.out.nodes.cell i).trans (List.getElem?_eq_getElem (by rw [ptrsO_length]; exact hlt))⟩
            have f1 := row_free HCn24.out.nodes i
            refine wpAnyH_ready (rs := [28]) (by kernel_rfl) (by simp) ?_
            refine AllReadyH.cons (i := 28) rfl (fun K hK => ?_) AllReadyH.nil
            go_simp
            refine hK.out _ _ (keep5 hHeld (grown_setCell _ _ _) (by simpa using HN1.out) (by simpa using HN2.out) (by simpa using HN2.out) (by simpa using HN2.out) (by simpa using HN2.out)) (fun hHeld' => ?_)
            clear hK K hHeld
            refine wpAnyH_done (by kernel_rfl) ?_ _
            have HFIN : Hid (Cons w (Wn24.setCell ⟨nb, i, none⟩ (.pointer (some ⟨b1, 0, none⟩))) n (i + 1) (i + 1) i kb nb bn Q (fun j => if j = i then b1 else nd j) pid u8) := by
              refine HCn24.out.setNode (by rw [← HQI.out]; exact hl) ?_ (Nat.le_trans HC5.out.bel.size HZB.out) ?_ ?_ (row_setCell HCn24.out.nodes) (grown_setCell Wn24 ⟨nb, i, none⟩ (.pointer (some ⟨b1, 0, none⟩)))
              · rw [← HQI.out]
                refine ⟨kr, vr, kp, vp, kc, vc, HND.out.lt, HRKn24.out.lt, HRVn24.out.lt, by rw [HQZ.out]; exact HND.out, by rw [bs_length]; exact HRKn24.out, by rw [bs_length]; exact HRVn24.out, HBKn24.out, HBVn24.out, HT8.out kr HXKb.out, HT8.out vr HXVb.out⟩
              · have := HC5.out.par.lt; have := HZB.out; omega
              · intro j hj hjl
                have h := (HC5.out.left j hj hjl).1.kid.type.2
                have := HZB.out
                omega
            clear x2 f1 hHeld'
            go_wp2
            go_roundg (gk - 1)
            case rel => exact ⟨i + 1, _, by omega, by go_num, rfl, HFIN.out⟩
            case measure => omega
      · obtain rfl : i = n := by omega
        clear hlt hik
        obtain ⟨N, hN⟩ : ∃ N, i - 1 = N := ⟨_, rfl⟩
        rw [hN] at HCO ⊢
        have HNI : Hid (N + 1 = i) := by show _ = _; omega
        clear hN
        obtain ⟨xs8, hox8, hsx8⟩ := HCO.out.seps
        obtain ⟨so, c8, hso8⟩ := own_shape' hox8
        subst hso8
        obtain ⟨k1, k2⟩ := own_cells hox8
        clear hox8 hsx8
        have hSl : ∀ j, j < N → (S j).length ≤ 140737488355328 := fun j hj => by
          rw [HSS.out]; simp only [bs_length]
          exact (HQ.out.ok (j + 1) (by have := HNI.out; omega)).s
        have hbz := bsz_le S N hSl
        obtain ⟨psz, HPZ⟩ : ∃ x, Hid (x = bsz S N) := ⟨_, rfl⟩
        rw [← HPZ.out] at hbz ⊢
        have HSL := Hid.mk' hSl
        clear hSl
        go_wp2_with (refine wpList_store_row rfl 25 (.tmp 107) (.tmp 105) rfl rfl bn 5 (.slice so N c8) rfl rfl 34 _ HCO.out.par Ybaf.size25 k1 k2 (by simp [nodeRow]) ?_)
        intro w1 r1 g1
        have HR1 : Hid (RowAt w1 bn 34 (nodeRow pid true false (.slice so N c8) (.slice none 0 0) (.slice (some ⟨kb, 0, none⟩) i i) (.slice (some ⟨nb, 0, none⟩) i i) 0)) := r1
        have HG1 := Hid.mk' g1
        clear r1 g1 k1 k2
        go_wp2_with (refine wpList_store_row rfl 3 (.tmp 111) (.tmp 109) rfl rfl bn 9 (.int .i64 psz) rfl rfl 34 _ HR1.out Ybaf.size3 rfl rfl (by simp [nodeRow]) ?_)
        intro w2 r2 g2
        have HR2 : Hid (RowAt w2 bn 34 (nodeRow pid true false (.slice so N c8) (.slice none 0 0) (.slice (some ⟨kb, 0, none⟩) i i) (.slice (some ⟨nb, 0, none⟩) i i) psz)) := r2
        have HG2 := Hid.mk' g2
        clear r2 g2
        go_wp2_with fail
        refine (new5t _ _ (w2.heap.size + 1) (by simp)).mono ?_
        rintro e w3 ⟨rfl, r3, g3⟩
        have HRD := Hid.mk' (ready_b HCO.out HSS.out psz HPZ.out HG1.out HG2.out HR2.out r3 g3)
        clear r3 g3
        obtain ⟨hWI, hPL, hBL, sb, hsb, hBF⟩ := HRD.out
        have HWI := Hid.mk' hWI
        have HPL := Hid.mk' hPL
        have HBL := Hid.mk' hBL
        have HBF := Hid.mk' hBF
        clear hWI hPL hBL hBF HRD
        generalize w2.heap.size = bp at *
        generalize bp + 1 = bt at *
        obtain ⟨b, HB⟩ : ∃ b, Hid (b = w3.heap.size) := ⟨_, rfl⟩
        rw [← HB.out] at HWI HPL HBF
        go_wp2_with fail
        refine (write6_b F w.heap.size w3 (by rw [HBL.out.tape]; exact HFF.out) b bp bt bn kb nb pid so sb N c8 i S Q base nd HPL.out HWI.out (fun j hj => HQ.out.ok j hj) HNI.out (by omega) hsb HBF.out HSL.out).mono ?_
        intro e w4 hpost
        have HPO := Hid.mk' hpost
        clear hpost
        obtain ⟨rid, re, he⟩ : ∃ rid re, e = .returned (.tuple #[.int .u64 rid, re]) := by
          rcases HPO.out.2 with ⟨_, _, _, _, _, ⟨q, rfl⟩, _⟩ | ⟨_, _, ⟨q, rfl⟩, _⟩ | ⟨_, _, rfl, _⟩
          · exact ⟨_, _, rfl⟩
          · exact ⟨_, _, rfl⟩
          · exact ⟨_, _, rfl⟩
        subst he
        obtain ⟨I0, hI1, hI2, hI3⟩ : ∃ I0, (I0 ≤ i ∧ fitsTo Q I0) ∧ (I0 < i → (Q I0).hot = true ∧ 4092 < (Q I0).sz) ∧
            ((I0 < i ∧ rid = 0 ∧ (∃ q, re = .iface 97 q) ∧ WEnd w4 b bp bt (inc (nxt Q base I0)) (hots Q I0 + 1) (idsTo Q base I0) (pgsTo Q I0) (frdTo Q I0) ∧ RowAt w4 bn 34 (parRow pid true so N c8 kb nb i psz)) ∨
             (I0 = i ∧ 4092 < psz ∧ rid = 0 ∧ (∃ q, re = .iface 97 q) ∧ WEnd w4 b bp bt (inc (nxt Q base i)) (hots Q i + 1) (idsTo Q base i) (pgsTo Q i) (frdTo Q i) ∧ RowAt w4 bn 34 (parRow pid true so N c8 kb nb i psz)) ∨
             (I0 = i ∧ psz ≤ 4092 ∧ rid = inc (nxt Q base i) ∧ re = .nilIface ∧ WEnd w4 b bp bt (inc (nxt Q base i)) (hots Q i + 1) (idsTo Q base i ++ [inc (nxt Q base i)]) (pgsTo Q i ++ [bbytes S (expAt Q base) N N]) (frdTo Q i ++ one pid) ∧ RowAt w4 bn 34 (parRow (inc (nxt Q base i)) false so N c8 kb nb i psz) ∧ RowAt w4 kb 23 (curK Q base i i))) := by
          rw [HPZ.out]
          rcases HPO.out.2 with ⟨j, h1, h2, h3, h4, ⟨q, h5⟩, h6, h7⟩ | ⟨h2, h3, ⟨q, h5⟩, h6, h7⟩ | ⟨h2, h3, h5, h6, h7, h8⟩
          · simp at h5
            exact ⟨j, ⟨by omega, h2⟩, fun _ => ⟨h3, h4⟩, .inl ⟨h1, h5.1, ⟨q, h5.2⟩, h6, h7⟩⟩
          · simp at h5
            exact ⟨i, ⟨Nat.le_refl _, h2⟩, fun h => absurd h (by omega), .inr (.inl ⟨rfl, h3, h5.1, ⟨q, h5.2⟩, h6, h7⟩)⟩
          · simp at h5
            exact ⟨i, ⟨Nat.le_refl _, h2⟩, fun h => absurd h (by omega), .inr (.inr ⟨rfl, h3, h5.1, h5.2, h6, h7, h8⟩)⟩
        have HI3 := Hid.mk' hI3
        clear hI3
        have HI1 := Hid.mk' hI1
        have HI2 := Hid.mk' hI2
        clear hI1 hI2
        have HB4 : Hid (Below w.heap.size w w4) := by
          have h := HPO.out.1
          refine ⟨h.os.trans HBL.out.os, h.tape.trans HBL.out.tape, h.output.trans HBL.out.output, Nat.le_trans HBL.out.size h.size, fun k hk => (h.block k ?_ (.inl hk)).trans (HBL.out.block k hk)⟩
          have := HBL.out.size
          rw [HB.out]
          omega
        have HBF4 : Hid (Bufs w4 sb N S) := HBF.out w4 HPO.out.1
        clear HR1 HR2 HG1 HG2 HWI HPL HBF HSL
        have mk31 := fun w => run_make_row' (P := Ybaf.prog) 31 23 (.int .u64 0) 8 Ybaf.underlying31 Ybaf.info23 rfl .i64 .i64 i (by omega) (by omega) w
        go_upto_block 2 with fail
        obtain ⟨xb, HXB⟩ : ∃ xb, Hid (xb = w4.heap.size) := ⟨_, rfl⟩
        have HE5 : Hid (Exp w4 (w4.alloc (Obj.cells (madeCells #[.int .u64 0] i) 23)) (w4.alloc (Obj.cells (madeCells #[.int .u64 0] i) 23)).heap.size xb i 0 Q base (.slice none 0 0) (.slice none 0 0) (.slice none 0 0) (curX Q base i 0)) := by
          refine ⟨(Below.refl _ _).alloc (Nat.le_refl _) _, by rw [HXB.out]; exact Nat.le_refl _, by rw [HXB.out]; simp, ?_, ⟨[], ⟨World.ownsRow_nil _ _ _ _, World.ownsRow_nil _ _ _ _, World.ownsRow_nil _ _ _ _, .inl rfl, fun p hp => by simp at hp, Nat.le_refl _⟩, rfl⟩⟩
          unfold RowAt
          rw [HXB.out, curX_zero, ← made_reps]
          exact heap_alloc_new w4 _
        rw [← HXB.out]
        generalize w4.alloc (Obj.cells (madeCells #[.int .u64 0] i) 23) = w5 at *
        obtain ⟨b5, HB5⟩ : ∃ b5, Hid (b5 = w5.heap.size) := ⟨_, rfl⟩
        rw [← HB5.out] at HE5
        clear mk31
        go_cut [16, 18, 19, 20, 21, 22, 23] from 128 to 189 (fun t16 t18 t19 t20 t21 _ _ wc => ∃ row, t16 = .int .u64 (if I0 < i then inc (nxt Q base I0) else nxt Q base i) ∧ t21 = .bool (decide (I0 < i)) ∧ Exp w4 wc b5 xb i I0 Q base t18 t19 t20 row ∧ (I0 = i → row = curX Q base i i))
        case first =>
          go_wp2_with fail
          go_loopg [16, 18, 19, 20, 21, 22] i (fun gk t16 t18 t19 t20 t21 t22 wr => ∃ k : Nat, k + gk = i ∧ k ≤ I0 ∧ t21 = .bool false ∧ t22 = .int .i64 k ∧ t16 = .int .u64 (nxt Q base k) ∧ Exp w4 wr b5 xb i k Q base t18 t19 t20 (curX Q base i k))
          case atStart => exact ⟨0, by omega, by omega, rfl, rfl, rfl, HE5.out⟩
          case round =>
            clear HE5
            obtain ⟨k, hki, hkI, rfl, rfl, rfl, hex⟩ := hrel
            have HEX := Hid.mk' hex
            clear hex
            by_cases hlt : k < i
            · have HBW : Hid (Below w.heap.size w wr) := HB4.out.trans (HEX.out.bel.mono HB4.out.size)
              have q0 := cell_stays HBW.out (HQ.out.c0 k hlt) (Nat.le_refl _)
              have q1 := cell_stays HBW.out (HQ.out.c1 k hlt) (Nat.le_refl _)
              have q2 := cell_stays HBW.out (HQ.out.c2 k hlt) (Nat.le_refl _)
              have q3 := cell_stays HBW.out (HQ.out.c3 k hlt) (Nat.le_refl _)
              have q4 := cell_stays HBW.out (HQ.out.c4 k hlt) (Nat.le_refl _)
              have q5 := cell_stays HBW.out (HQ.out.c5 k hlt) (Nat.le_refl _)
              have HOK := Hid.mk' (HQ.out.ok k hlt)
              obtain ⟨q, HQI⟩ : ∃ q, Hid (q = Q k) := ⟨_, rfl⟩
              rw [← HQI.out] at q0 q1 q2 q3 q4 q5 HOK
              go_upto_region 31 with fail
              obtain ⟨cp, HCP⟩ : ∃ cp, Hid (cp = wr.heap.size) := ⟨_, rfl⟩
              have HX1 := Hid.mk' (HEX.out.more (grown_alloc wr (Obj.cells #[.bool q.loaded, .bool q.dirty, .int .u64 q.old, .string q.k, .string q.v, .string q.sep] 54)))
              have HR1 : Hid (RowAt (wr.alloc (Obj.cells #[.bool q.loaded, .bool q.dirty, .int .u64 q.old, .string q.k, .string q.v, .string q.sep] 54)) cp 54 [.bool q.loaded, .bool q.dirty, .int .u64 q.old, .string q.k, .string q.v, .string q.sep]) := by rw [HCP.out]; exact heap_alloc_new wr _
              rw [← HCP.out]
              generalize wr.alloc (Obj.cells #[.bool q.loaded, .bool q.dirty, .int .u64 q.old, .string q.k, .string q.v, .string q.sep] 54) = w6 at *
              clear q0 q1 q2 q3 q4 q5 HCP
              have m2 : w6.cell? ⟨cp, 2, none⟩ = some (.int .u64 q.old) := HR1.out.cell 2
              go_wp2_with (refine wpList_store_row rfl 23 (.tmp 142) (.tmp 141) rfl rfl xb k (.int .u64 q.old) rfl rfl 23 _ HX1.out.xrow Ybaf.size23 rfl rfl ?c1 ?_)
              case c1 => rw [curX_length]; exact hlt
              intro w7 r7 g7
              have HX7 := Hid.mk' (HX1.out.set r7 g7)
              have HR7 := Hid.mk' (HR1.out.grown g7 (fun e => by cases e; exact TypeAt.ne HR1.out.type HX1.out.xrow.type (by decide) rfl))
              clear r7 g7 m2 HX1 HR1
              have m0 : w7.cell? ⟨cp, 0, none⟩ = some (.bool q.loaded) := HR7.out.cell 0
              have m1 : w7.cell? ⟨cp, 1, none⟩ = some (.bool q.dirty) := HR7.out.cell 1
              have m2 : w7.cell? ⟨cp, 2, none⟩ = some (.int .u64 q.old) := HR7.out.cell 2
              have m3 : w7.cell? ⟨cp, 3, none⟩ = some (.string q.k) := HR7.out.cell 3
              have m4 : w7.cell? ⟨cp, 4, none⟩ = some (.string q.v) := HR7.out.cell 4
              by_cases hh : q.hot = true
              · obtain ⟨hl, hd⟩ : q.loaded = true ∧ q.dirty = true := by simpa [Kid.hot] using hh
                rw [hl] at m0
                rw [hd] at m1
                have hhQ : (Q k).hot = true := by rw [← HQI.out]; exact hh
                obtain ⟨x, HXN⟩ : ∃ x, Hid (x = nxt Q base k) := ⟨_, rfl⟩
                rw [← HXN.out]
                obtain ⟨y, HYN⟩ : ∃ y, Hid (y = inc x) := ⟨_, rfl⟩
                have hy : IntKind.u64.wrap (x + 1) = y := HYN.out.symm
                have HYE : Hid (y = expAt Q base k) := by
                  show _ = _
                  unfold expAt
                  rw [if_pos hhQ, HYN.out, HXN.out]
                have hkb := HOK.out.k
                have hvb := HOK.out.v
                by_cases hbig : 4092 < q.sz
                · obtain rfl : k = I0 := by
                    rcases Nat.lt_or_ge k I0 with a | a
                    · exact absurd (HI1.out.2 k a hhQ) (by rw [← HQI.out]; omega)
                    · omega
                  have hb2 : (4092 : Int) < 8 + (q.k.size : Int) + (q.v.size : Int) := by unfold Kid.sz at hbig; omega
                  clear hbig
                  go_wp2
                  go_meet
                  case rel => exact ⟨_, by rw [if_pos hlt, ← HXN.out, ← HYN.out], by simp [hlt], HX7.out, fun e => absurd e (by omega)⟩
                · have hb2 : 8 + (q.k.size : Int) + (q.v.size : Int) ≤ 4092 := by unfold Kid.sz at hbig; omega
                  have HFIT : Hid (q.sz ≤ 4092) := by show _ ≤ _; omega
                  have hkI2 : k < I0 := by
                    rcases Nat.lt_or_ge k I0 with a | a
                    · exact a
                    · obtain rfl : k = I0 := by omega
                      exact absurd (HI2.out hlt).2 (by rw [← HQI.out]; omega)
                  clear hbig
                  obtain ⟨i23, hi, hz0, hz1, hz2⟩ := info_parts Ybaf.info23
                  obtain ⟨i26, hj, hy0, hy1, hy2⟩ := info_parts Ybaf.info26
                  obtain ⟨pages, hrw, hpg⟩ := HX7.out.rows
                  have HRW := Hid.mk' hrw
                  have HPG := Hid.mk' hpg
                  clear hrw hpg
                  have hc1 : (idsTo Q base k).length ≤ 1000 := by rw [idsTo_length]; have := hots_le Q k; omega
                  have hc2 : pages.length ≤ 1000 := by
                    have e : pages.length = (pgsTo Q k).length := by rw [← HPG.out]; simp
                    rw [e, pgsTo_length]; have := hots_le Q k; omega
                  have hc3 : (frdTo Q k).length ≤ 1000 := by have := frdTo_length Q k; omega
                  obtain ⟨n1, HN1⟩ : ∃ x, Hid (x = (idsTo Q base k).length) := ⟨_, rfl⟩
                  obtain ⟨n2, HN2⟩ : ∃ x, Hid (x = pages.length) := ⟨_, rfl⟩
                  obtain ⟨n3, HN3⟩ : ∃ x, Hid (x = (frdTo Q k).length) := ⟨_, rfl⟩
                  rw [← HN1.out] at hc1
                  rw [← HN2.out] at hc2
                  rw [← HN3.out] at hc3
                  go_wp2_with (at_builtin; refine wpList_append_own_at _ rfl _ _ 31 rfl b5 23 i23 (.int .u64 0) 1 8 Ybaf.underlying31 hi hz0 hz1 hz2 rfl (by decide) _ n1 (u64s (idsTo Q base k)) rfl (by rw [HN1.out]; exact HRW.out.ids.alloc _) ⟨w7.heap.size, 0, none⟩ 1 1 [.int .u64 y] rfl rfl (cell_one_new _ _ _) (by simp [Value.oneCell']) (maxLen_of _ (by omega)) (by omega) ?d1 ?_)
                  case d1 => exact Nat.le_trans HRW.out.b (grown_alloc w7 _).size
                  intro v18 w8 hown hg _ hv
                  have HOC : Hid (∀ g, Value.ownBlock u18 = some g → b5 ≤ g) := fun g e => (HRW.out.ids.lt g e).1
                  have hgA := grown_alloc w7 (Obj.cells #[.int .u64 y] 23)
                  have hrwA := HRW.out.more hgA
                  rw [HN1.out] at hown
                  have HRW8 : Hid (Rows w8 b5 (idsTo Q base k ++ [y]) pages (frdTo Q k) v18 u19 u20) := hrwA.pushId hown hg (by simpa using hv)
                  have HXR8 : Hid (RowAt w8 xb 23 ((curX Q base i k).set k (.int .u64 q.old))) := (HX7.out.xrow.grown hgA (by simp)).grown hg (not_own (own_ge hrwA.ids xb HX7.out.hxb))
                  have HBE8 : Hid (Below w4.heap.size w4 w8) := (HX7.out.bel.grown hgA HX7.out.bel.size (fun k hk => nomatch hk)).grown hg (Nat.le_trans HX7.out.bel.size hgA.size) (fun k hk => by have := (hrwA.ids.lt k hk).1; have := HX7.out.lxb; have := HX7.out.hxb; omega)
                  have HR8 : Hid (RowAt w8 cp 54 [.bool q.loaded, .bool q.dirty, .int .u64 q.old, .string q.k, .string q.v, .string q.sep]) := (HR7.out.grown hgA (by simp)).grown hg (not_own (own_ne_row hrwA.ids (HR7.out.grown hgA (by simp)) (by decide)))
                  clear hown hg hv hgA hrwA m0 m1 m2 m3 m4
                  have m3 : w8.cell? ⟨cp, 3, none⟩ = some (.string q.k) := HR8.out.cell 3
                  go_wp2_with (refine wpList_bytesT rfl (.tmp 168) rfl q.k rfl ?_)
                  intro w9 kc b9 g9 z9
                  obtain ⟨kp, HKP⟩ : ∃ x, Hid (x = w8.heap.size) := ⟨_, rfl⟩
                  rw [← HKP.out] at b9 ⊢
                  have HBK9 := Hid.mk' b9
                  have HRW9 := Hid.mk' (HRW8.out.more g9)
                  have HXR9 := Hid.mk' (HXR8.out.grown g9 (by simp))
                  have HBE9 : Hid (Below w4.heap.size w4 w9) := HBE8.out.grown g9 HBE8.out.size (fun k hk => nomatch hk)
                  have HR9 := Hid.mk' (HR8.out.grown g9 (by simp))
                  clear b9 g9 z9 m3
                  have m4 : w9.cell? ⟨cp, 4, none⟩ = some (.string q.v) := HR9.out.cell 4
                  obtain ⟨lk, HLK⟩ : ∃ x, Hid (x = (bs q.k).length) := ⟨_, rfl⟩
                  rw [← HLK.out]
                  obtain ⟨kr, HKR⟩ : ∃ x, Hid (x = w9.heap.size) := ⟨_, rfl⟩
                  have HR9A := Hid.mk' (HR9.out.grown (grown_alloc w9 (Obj.cells #[.slice (some ⟨kp, 0, none⟩) lk kc] 26)) (by simp))
                  have m4' : (w9.alloc (Obj.cells #[.slice (some ⟨kp, 0, none⟩) lk kc] 26)).cell? ⟨cp, 4, none⟩ = some (.string q.v) := HR9A.out.cell 4
                  go_wp2_with (refine wpList_bytesT rfl (.tmp 172) rfl q.v rfl ?_)
                  intro w10 vc b10 g10 z10
                  have hgB := grown_alloc w9 (Obj.cells #[.slice (some ⟨kp, 0, none⟩) lk kc] 26)
                  have hgC : w9.grownBy w10 none := grown_two hgB g10 (.inl rfl) (.inl rfl)
                  have HRK10 : Hid (RowAt w10 kr 26 [.slice (some ⟨kp, 0, none⟩) lk kc]) := by
                    have r : RowAt (w9.alloc (Obj.cells #[.slice (some ⟨kp, 0, none⟩) lk kc] 26)) kr 26 [.slice (some ⟨kp, 0, none⟩) lk kc] := by rw [HKR.out]; exact heap_alloc_new w9 _
                    exact r.grown g10 (by simp)
                  obtain ⟨vp, HVP⟩ : ∃ x, Hid (x = w9.heap.size + 1) := ⟨_, rfl⟩
                  rw [← HVP.out] at b10 ⊢
                  rw [← HKR.out]
                  have HBV10 := Hid.mk' b10
                  have HBK10 := Hid.mk' (HBK9.out.grown hgC (Other.none _ none) hgC.size)
                  have HRW10 := Hid.mk' (HRW9.out.more hgC)
                  have HXR10 := Hid.mk' (HXR9.out.grown hgC (by simp))
                  have HBE10 : Hid (Below w4.heap.size w4 w10) := HBE9.out.grown hgC HBE9.out.size (fun k hk => nomatch hk)
                  have HR10 := Hid.mk' (HR9.out.grown hgC (by simp))
                  clear b10 g10 z10 hgB hgC m4 m4' HR9A
                  obtain ⟨lv, HLV⟩ : ∃ x, Hid (x = (bs q.v).length) := ⟨_, rfl⟩
                  rw [← HLV.out]
                  have hgD := grown_alloc w10 (Obj.cells #[.slice (some ⟨vp, 0, none⟩) lv vc] 26)
                  have HRV11 : Hid (RowAt (w10.alloc (Obj.cells #[.slice (some ⟨vp, 0, none⟩) lv vc] 26)) w10.heap.size 26 [.slice (some ⟨vp, 0, none⟩) lv vc]) := heap_alloc_new w10 _
                  have HRK11 := Hid.mk' (HRK10.out.grown hgD (by simp))
                  have HBK11 := Hid.mk' (HBK10.out.grown hgD (Other.none _ none) hgD.size)
                  have HBV11 := Hid.mk' (HBV10.out.grown hgD (Other.none _ none) hgD.size)
                  have HRW11 := Hid.mk' (HRW10.out.more hgD)
                  have HXR11 := Hid.mk' (HXR10.out.grown hgD (by simp))
                  have HBE11 : Hid (Below w4.heap.size w4 (w10.alloc (Obj.cells #[.slice (some ⟨vp, 0, none⟩) lv vc] 26))) := HBE10.out.grown hgD HBE10.out.size (fun k hk => nomatch hk)
                  have HR11 := Hid.mk' (HR10.out.grown hgD (by simp))
                  clear hgD
                  go_wp2_with fail
                  obtain ⟨vr, HVR⟩ : ∃ x, Hid (x = w10.heap.size) := ⟨_, rfl⟩
                  rw [← HVR.out] at HRV11 ⊢
                  generalize w10.alloc (Obj.cells #[.slice (some ⟨vp, 0, none⟩) lv vc] 26) = w11 at *
                  rw [HLK.out] at HRK11
                  rw [HLV.out] at HRV11
                  refine (leafpage8 w11 kr vr 1 1 1 (fun _ => bs q.k) (fun _ => bs q.v) (by omega) (bufs_one HRK11.out HBK11.out) (bufs_one HRV11.out HBV11.out) (by rw [one_pair]; exact HFIT.out)).mono ?_
                  rintro e w12 ⟨rfl, hp12, hb12⟩
                  obtain ⟨g, HGG⟩ : ∃ x, Hid (x = w11.heap.size) := ⟨_, rfl⟩
                  rw [← HGG.out] at hp12 ⊢
                  have hgE := grown_of_below hb12
                  have HPG12 : Hid (PRow w12 g q.page) := hp12
                  have HRW12 := Hid.mk' (HRW11.out.more hgE)
                  have HXR12 := Hid.mk' (HXR11.out.grown hgE (by simp))
                  have HBE12 : Hid (Below w4.heap.size w4 w12) := HBE11.out.grown hgE HBE11.out.size (fun k hk => nomatch hk)
                  have HR12 := Hid.mk' (HR11.out.grown hgE (by simp))
                  have HGB : Hid (b5 ≤ g) := by rw [HGG.out]; exact HRW11.out.b
                  clear hp12 hb12 hgE
                  go_wp2_with (at_builtin; refine wpList_append_own_at _ rfl _ _ 25 rfl b5 26 i26 (.slice none 0 0) 1 24 Ybaf.underlying25 hj hy0 hy1 hy2 rfl (by decide) u19 n2 (slices pages) rfl (by rw [HN2.out]; exact HRW12.out.bufs.alloc _) ⟨w12.heap.size, 0, none⟩ 1 1 [.slice (some ⟨g, 0, none⟩) 4092 4092] rfl rfl (cell_one_new _ _ _) (by simp [Value.oneCell']) (maxLen_of _ (by omega)) (by omega) ?d2 ?_)
                  case d2 => exact Nat.le_trans HRW12.out.b (grown_alloc w12 _).size
                  intro v19 w13 hown hg _ hv
                  have hgA := grown_alloc w12 (Obj.cells #[.slice (some ⟨g, 0, none⟩) 4092 4092] 26)
                  have hrwA := HRW12.out.more hgA
                  rw [HN2.out] at hown
                  have HRW13 : Hid (Rows w13 b5 (idsTo Q base k ++ [y]) (pages ++ [(g, q.page)]) (frdTo Q k) v18 v19 u20) := hrwA.pushPage HGB.out (HPG12.out.grown hgA (by simp)) hown hg
                  have HXR13 : Hid (RowAt w13 xb 23 ((curX Q base i k).set k (.int .u64 q.old))) := (HXR12.out.grown hgA (by simp)).grown hg (not_own (own_ge hrwA.bufs xb HX7.out.hxb))
                  have HBE13 : Hid (Below w4.heap.size w4 w13) := (HBE12.out.grown hgA HBE12.out.size (fun k hk => nomatch hk)).grown hg (Nat.le_trans HBE12.out.size hgA.size) (fun k hk => by have := (hrwA.bufs.lt k hk).1; have := HX7.out.lxb; have := HX7.out.hxb; omega)
                  have HR13 : Hid (RowAt w13 cp 54 [.bool q.loaded, .bool q.dirty, .int .u64 q.old, .string q.k, .string q.v, .string q.sep]) := (HR12.out.grown hgA (by simp)).grown hg (not_own (own_ne_row hrwA.bufs (HR12.out.grown hgA (by simp)) (by decide)))
                  clear hown hg hv hgA hrwA
                  have m2 : w13.cell? ⟨cp, 2, none⟩ = some (.int .u64 q.old) := HR13.out.cell 2
                  have HSTEP : Hid (∀ w14 v20, Rows w14 b5 (idsTo Q base k ++ [y]) (pages ++ [(g, q.page)]) (frdTo Q k ++ one q.old) v18 v19 v20 → RowAt w14 xb 23 (((curX Q base i k).set k (.int .u64 q.old)).set k (.int .u64 y)) → Below w4.heap.size w4 w14 → Exp w4 w14 b5 xb i (k + 1) Q base v18 v19 v20 (curX Q base i (k + 1))) := fun w14 v20 h1 h2 h3 => by
                    rw [curX_set2 Q base i k q.old y HYE.out] at h2
                    refine ⟨h3, HX7.out.lxb, HX7.out.hxb, h2, ⟨pages ++ [(g, q.page)], ?_, ?_⟩⟩
                    · simp only [idsTo, frdTo, hhQ, if_true]
                      rw [← HXN.out, ← HYN.out, ← HQI.out]
                      exact h1
                    · simp only [pgsTo, hhQ, if_true]
                      rw [← HQI.out]
                      simp [HPG.out]
                  have HNXT : Hid (y = nxt Q base (k + 1)) := by
                    show _ = _
                    simp only [nxt, hhQ, if_true]
                    rw [HYN.out, HXN.out]
                  by_cases hold : q.old = 0
                  · have HONE : Hid (frdTo Q k ++ one q.old = frdTo Q k) := by simp [Hid, one, hold]
                    rw [hold] at m2
                    go_wp2_with (refine wpList_store_row rfl 23 (.tmp 189) (.tmp 188) rfl rfl xb k (.int .u64 y) rfl rfl 23 _ HXR13.out Ybaf.size23 rfl rfl ?e1 ?_)
                    case e1 => rw [List.length_set, curX_length]; exact hlt
                    intro w14 r14 g14
                    have HX14 : Hid (Exp w4 w14 b5 xb i (k + 1) Q base v18 v19 u20 (curX Q base i (k + 1))) := HSTEP.out w14 u20 (by rw [HONE.out]; exact HRW13.out.low g14 HX7.out.hxb) r14 (HBE13.out.grown g14 HBE13.out.size (fun k hk => by cases hk; exact HX7.out.lxb))
                    clear r14 g14 m2
                    go_wp2
                    go_roundg (gk - 1)
                    case rel => exact ⟨k + 1, by omega, by omega, rfl, by go_num, by rw [← HNXT.out], HX14.out⟩
                    case measure => omega
                  · have hold' : (q.old != 0) = true := by simpa using hold
                    have HONE : Hid (one q.old = [q.old]) := by simp [Hid, one, hold]
                    clear hold
                    go_wp2_with (at_builtin; refine wpList_append_own_at _ rfl _ _ 31 rfl b5 23 i23 (.int .u64 0) 1 8 Ybaf.underlying31 hi hz0 hz1 hz2 rfl (by decide) u20 n3 (u64s (frdTo Q k)) rfl (by rw [HN3.out]; exact HRW13.out.freed.alloc _) ⟨w13.heap.size, 0, none⟩ 1 1 [.int .u64 q.old] rfl rfl (cell_one_new _ _ _) (by simp [Value.oneCell']) (maxLen_of _ (by omega)) (by omega) ?d3 ?_)
                    case d3 => exact Nat.le_trans HRW13.out.b (grown_alloc w13 _).size
                    intro v20 w14 hown hg _ hv
                    have hgA := grown_alloc w13 (Obj.cells #[.int .u64 q.old] 23)
                    have hrwA := HRW13.out.more hgA
                    rw [HN3.out] at hown
                    have HRW14 : Hid (Rows w14 b5 (idsTo Q base k ++ [y]) (pages ++ [(g, q.page)]) (frdTo Q k ++ [q.old]) v18 v19 v20) := hrwA.pushFreed hown hg (by simpa using hv)
                    have HXR14 : Hid (RowAt w14 xb 23 ((curX Q base i k).set k (.int .u64 q.old))) := (HXR13.out.grown hgA (by simp)).grown hg (not_own (own_ge hrwA.freed xb HX7.out.hxb))
                    have HBE14 : Hid (Below w4.heap.size w4 w14) := (HBE13.out.grown hgA HBE13.out.size (fun k hk => nomatch hk)).grown hg (Nat.le_trans HBE13.out.size hgA.size) (fun k hk => by have := (hrwA.freed.lt k hk).1; have := HX7.out.lxb; have := HX7.out.hxb; omega)
                    clear hown hg hv hgA hrwA m2
                    go_wp2_with (refine wpList_store_row rfl 23 (.tmp 189) (.tmp 188) rfl rfl xb k (.int .u64 y) rfl rfl 23 _ HXR14.out Ybaf.size23 rfl rfl ?e2 ?_)
                    case e2 => rw [List.length_set, curX_length]; exact hlt
                    intro w15 r15 g15
                    have HX15 : Hid (Exp w4 w15 b5 xb i (k + 1) Q base v18 v19 v20 (curX Q base i (k + 1))) := HSTEP.out w15 v20 (by rw [HONE.out]; exact HRW14.out.low g15 HX7.out.hxb) r15 (HBE14.out.grown g15 HBE14.out.size (fun k hk => by cases hk; exact HX7.out.lxb))
                    clear r15 g15
                    go_wp2
                    go_roundg (gk - 1)
                    case rel => exact ⟨k + 1, by omega, by omega, rfl, by go_num, by rw [← HNXT.out], HX15.out⟩
                    case measure => omega
              · have hhQ : (Q k).hot = false := by rw [← HQI.out]; simpa using hh
                have HX8 : Hid (Exp w4 w7 b5 xb i (k + 1) Q base u18 u19 u20 (curX Q base i (k + 1))) := by
                  have h := HX7.out
                  rw [curX_set Q base i k q.old (by unfold expAt; rw [hhQ, HQI.out]; simp)] at h
                  refine ⟨h.bel, h.lxb, h.hxb, h.xrow, ?_⟩
                  have := h.rows
                  simpa [idsTo, frdTo, pgsTo, hhQ] using this
                have HNX : Hid (nxt Q base (k + 1) = nxt Q base k) := by simp [Hid, nxt, hhQ]
                have hkI2 : k < I0 := by
                  rcases Nat.lt_or_ge k I0 with a | a
                  · exact a
                  · obtain rfl : k = I0 := by omega
                    exact absurd (HI2.out hlt).1 (by rw [hhQ]; simp)
                cases hl : q.loaded with
                | false =>
                  rw [hl] at m0
                  go_wp2
                  go_roundg (gk - 1)
                  case rel => exact ⟨k + 1, by omega, by omega, rfl, by go_num, by rw [HNX.out], HX8.out⟩
                  case measure => omega
                | true =>
                  rw [hl] at m0
                  have hd : q.dirty = false := by
                    cases hdd : q.dirty with
                    | false => rfl
                    | true => exact absurd (by simp [Kid.hot, hl, hdd]) hh
                  rw [hd] at m1
                  go_wp2
                  go_roundg (gk - 1)
                  case rel => exact ⟨k + 1, by omega, by omega, rfl, by go_num, by rw [HNX.out], HX8.out⟩
                  case measure => omega
            · obtain rfl : k = i := by omega
              obtain rfl : I0 = k := by have := HI1.out.1; omega
              go_wp2
              go_meet
              case rel => exact ⟨_, by simp, by simp, HEX.out, fun _ => rfl⟩
        case rest =>
          obtain ⟨row, rfl, rfl, hex, hrow⟩ := hcut
          have HEX := Hid.mk' hex
          have HROW := Hid.mk' hrow
          clear hex hrow HE5
          rcases HI3.out with ⟨hlt, rfl, ⟨er, rfl⟩, hwe, hpr⟩ | ⟨rfl, hbig, rfl, ⟨er, rfl⟩, hwe, hpr⟩ | ⟨rfl, hfit, rfl, rfl, hwe, hpr, hkr⟩
          · rw [if_pos hlt]
            have hd : decide (I0 < i) = true := by simpa using hlt
            rw [hd]
            clear hd
            obtain ⟨pages, vi, vb, vf, hst, hpg⟩ := hwe
            have HST := Hid.mk' hst
            have HPR := Hid.mk' hpr
            clear hst hpg hpr
            obtain ⟨a1, c1, g1, hv1, hc1, hg1, hx1⟩ := own_u64s HST.out.rows.ids
            subst hv1
            obtain ⟨pgs2, hrw2, _⟩ := HEX.out.rows
            obtain ⟨a2, c2, g2, hv2, hc2, hg2, hx2⟩ := own_u64s hrw2.ids
            subst hv2
            have HRW := Hid.mk' hrw2
            clear hrw2
            have p4 : wc.cell? ⟨bp, 4, none⟩ = some (.slice a1 (idsTo Q base I0).length c1) := cell_stays HEX.out.bel (HST.out.pg.cell 4) (Nat.le_refl _)
            have HU1 : Hid (U64sAt wc (.slice a1 (idsTo Q base I0).length c1) (idsTo Q base I0)) := (u64s_at HST.out.rows.ids).below HEX.out.bel
            have HU2 : Hid (U64sAt wc (.slice a2 (idsTo Q base I0).length c2) (idsTo Q base I0)) := u64s_at HRW.out.ids
            clear hx1 hx2
            generalize hh : (idsTo Q base I0).length = h at *
            have hhb : h ≤ 1000 := by rw [← hh, idsTo_length]; have := hots_le Q I0; have := HI1.out.1; omega
            have hb0 : (0 : Int) ≤ (h : Int) := by omega
            have hb1 : (h : Int) ≤ (c1 : Int) := by omega
            have hb2 : (h : Int) ≤ (c2 : Int) := by omega
            go_upto_region 45 with fail
            go_region_held3 (fun w' => w'.cell? ⟨bp, 4, none⟩ = some (.slice a1 h c1)) (first | exact p4 | assumption)
              (first | (go_at_call 9; refine (equal9 wc.drew _ _ (idsTo Q base I0) HU1.out HU2.out (by rw [hh]; exact hhb)).mono ?_; rintro e w20 ⟨rfl, m20, rfl⟩; have s20 : (wc.drew.drewN m20).cell? ⟨bp, 4, none⟩ = some (.slice a1 h c1) := p4))
            all_goals
              have hu3 : U64sAt wc vf (frdTo Q I0) := (u64s_at HST.out.rows.freed).below HEX.out.bel
              have hu4 : U64sAt wc u20 (frdTo Q I0) := u64s_at HRW.out.freed
              have HU3 := Hid.mk' hu3
              have HU4 := Hid.mk' hu4
              have HBC : Hid (Below w.heap.size w wc) := HB4.out.trans (HEX.out.bel.mono HB4.out.size)
              have t5 : wc.cell? ⟨bt, 5, none⟩ = some vf := cell_stays HEX.out.bel (HST.out.tr.cell 5) (Nat.le_refl _)
              have n0 : wc.cell? ⟨bn, 0, none⟩ = some (.int .u64 pid) := cell_stays HEX.out.bel (HPR.out.cell 0) (Nat.le_refl _)
              have n1 : wc.cell? ⟨bn, 1, none⟩ = some (.bool true) := cell_stays HEX.out.bel (HPR.out.cell 1) (Nat.le_refl _)
              clear hu3 hu4 s20
              go_wp2_with fail
              refine (equal9 _ _ _ (frdTo Q I0) (U64sAt.drewN HU3.out _) (U64sAt.drewN HU4.out _) (by have := frdTo_length Q I0; have := HI1.out.1; omega)).mono ?_
              rintro e w21 ⟨rfl, m21, rfl⟩
              go_wp2
              go_ret
              exact ⟨rfl, belowN HBC.out _⟩
          · have hlt : ¬ I0 < I0 := by omega
            rw [if_neg hlt]
            have hd : decide (I0 < I0) = false := by simp
            rw [hd]
            clear hd
            obtain ⟨x, HXN⟩ : ∃ x, Hid (x = nxt Q base I0) := ⟨_, rfl⟩
            rw [← HXN.out]
            obtain ⟨y, HYN⟩ : ∃ y, Hid (y = inc x) := ⟨_, rfl⟩
            have hy : IntKind.u64.wrap (x + 1) = y := HYN.out.symm
            have hbigI : (4092 : Int) < (psz : Int) := by omega
            obtain ⟨pages, vi, vb, vf, hst, hpg⟩ := hwe
            have HST := Hid.mk' hst
            have HPR := Hid.mk' hpr
            clear hst hpg hpr
            obtain ⟨a1, c1, g1, hv1, hc1, hg1, hx1⟩ := own_u64s HST.out.rows.ids
            subst hv1
            obtain ⟨pgs2, hrw2, _⟩ := HEX.out.rows
            obtain ⟨a2, c2, g2, hv2, hc2, hg2, hx2⟩ := own_u64s hrw2.ids
            subst hv2
            have HRW := Hid.mk' hrw2
            clear hrw2
            have p4 : wc.cell? ⟨bp, 4, none⟩ = some (.slice a1 (idsTo Q base I0).length c1) := cell_stays HEX.out.bel (HST.out.pg.cell 4) (Nat.le_refl _)
            have HU1 : Hid (U64sAt wc (.slice a1 (idsTo Q base I0).length c1) (idsTo Q base I0)) := (u64s_at HST.out.rows.ids).below HEX.out.bel
            have HU2 : Hid (U64sAt wc (.slice a2 (idsTo Q base I0).length c2) (idsTo Q base I0)) := u64s_at HRW.out.ids
            clear hx1 hx2
            generalize hh : (idsTo Q base I0).length = h at *
            have hhb : h ≤ 1000 := by rw [← hh, idsTo_length]; have := hots_le Q I0; have := HI1.out.1; omega
            have hb0 : (0 : Int) ≤ (h : Int) := by omega
            have hb1 : (h : Int) ≤ (c1 : Int) := by omega
            have hb2 : (h : Int) ≤ (c2 : Int) := by omega
            go_upto_region 45 with fail
            go_region_held3 (fun w' => w'.cell? ⟨bp, 4, none⟩ = some (.slice a1 h c1)) (first | exact p4 | assumption)
              (first | (go_at_call 9; refine (equal9 wc.drew _ _ (idsTo Q base I0) HU1.out HU2.out (by rw [hh]; exact hhb)).mono ?_; rintro e w20 ⟨rfl, m20, rfl⟩; have s20 : (wc.drew.drewN m20).cell? ⟨bp, 4, none⟩ = some (.slice a1 h c1) := p4))
            all_goals
              have hu3 : U64sAt wc vf (frdTo Q I0) := (u64s_at HST.out.rows.freed).below HEX.out.bel
              have hu4 : U64sAt wc u20 (frdTo Q I0) := u64s_at HRW.out.freed
              have HU3 := Hid.mk' hu3
              have HU4 := Hid.mk' hu4
              have HBC : Hid (Below w.heap.size w wc) := HB4.out.trans (HEX.out.bel.mono HB4.out.size)
              have t5 : wc.cell? ⟨bt, 5, none⟩ = some vf := cell_stays HEX.out.bel (HST.out.tr.cell 5) (Nat.le_refl _)
              have n0 : wc.cell? ⟨bn, 0, none⟩ = some (.int .u64 pid) := cell_stays HEX.out.bel (HPR.out.cell 0) (Nat.le_refl _)
              have n1 : wc.cell? ⟨bn, 1, none⟩ = some (.bool true) := cell_stays HEX.out.bel (HPR.out.cell 1) (Nat.le_refl _)
              clear hu3 hu4 s20
              go_wp2_with fail
              refine (equal9 _ _ _ (frdTo Q I0) (U64sAt.drewN HU3.out _) (U64sAt.drewN HU4.out _) (by have := frdTo_length Q I0; have := HI1.out.1; omega)).mono ?_
              rintro e w21 ⟨rfl, m21, rfl⟩
              go_wp2
              go_ret
              exact ⟨rfl, belowN HBC.out _⟩
          · have hlt : ¬ I0 < I0 := by omega
            rw [if_neg hlt]
            have hd : decide (I0 < I0) = false := by simp
            rw [hd]
            clear hd
            obtain ⟨x, HXN⟩ : ∃ x, Hid (x = nxt Q base I0) := ⟨_, rfl⟩
            rw [← HXN.out] at hwe hpr ⊢
            obtain ⟨y, HYN⟩ : ∃ y, Hid (y = inc x) := ⟨_, rfl⟩
            rw [← HYN.out] at hwe hpr ⊢
            have hy : IntKind.u64.wrap (x + 1) = y := HYN.out.symm
            have hfitI : (psz : Int) ≤ 4092 := by omega
            obtain ⟨pages, vi, vb, vf, hst, hpg⟩ := hwe
            have HST := Hid.mk' hst
            have HPR := Hid.mk' hpr
            have HPG := Hid.mk' hpg
            have HKR := Hid.mk' hkr
            clear hst hpg hpr hkr
            obtain ⟨a1, c1, g1, hv1, hc1, hg1, hx1⟩ := own_u64s HST.out.rows.ids
            have HG1 : Hid (a1 = some ⟨g1, 0, none⟩) := hg1 (by simp)
            clear hg1
            subst hv1
            obtain ⟨pgs2, hrw2, hpg2⟩ := HEX.out.rows
            obtain ⟨a2, c2, g2, hv2, hc2, hg2, hx2⟩ := own_u64s hrw2.ids
            subst hv2
            have HRW := Hid.mk' hrw2
            have HPG2 := Hid.mk' hpg2
            clear hrw2 hpg2
            have HXR : Hid (RowAt wc xb 23 (curX Q base I0 I0)) := by rw [← HROW.out rfl]; exact HEX.out.xrow
            have p4 : wc.cell? ⟨bp, 4, none⟩ = some (.slice a1 (idsTo Q base I0 ++ [y]).length c1) := cell_stays HEX.out.bel (HST.out.pg.cell 4) (Nat.le_refl _)
            have HU0 : Hid (U64sAt wc (.slice a1 (idsTo Q base I0 ++ [y]).length c1) (idsTo Q base I0 ++ [y])) := (u64s_at HST.out.rows.ids).below HEX.out.bel
            have HU1 : Hid (U64sAt wc (.slice a1 (idsTo Q base I0).length c1) (idsTo Q base I0)) := ⟨a1, c1, g1, rfl, fun _ => HG1.out, fun j z hz => cell_stays HEX.out.bel (hx1 j z (by rw [List.getElem?_append_left (List.getElem?_eq_some_iff.1 hz).1]; exact hz)) (Nat.le_refl _)⟩
            have HU2 : Hid (U64sAt wc (.slice a2 (idsTo Q base I0).length c2) (idsTo Q base I0)) := u64s_at HRW.out.ids
            clear hx1 hx2
            have HM1 : Hid ((idsTo Q base I0 ++ [y]).length = (idsTo Q base I0).length + 1) := by simp [Hid]
            generalize hm1 : (idsTo Q base I0 ++ [y]).length = m1 at *
            generalize hh : (idsTo Q base I0).length = h at *
            have HHH := Hid.mk' hh
            have HMM := Hid.mk' hm1
            clear hh hm1
            have hhb : h ≤ 256 := by rw [← HHH.out, idsTo_length]; have := hots_le Q I0; have := HI1.out.1; omega
            have hm1b : m1 ≤ 257 := by have := HM1.out; omega
            have hb0 : (0 : Int) ≤ (h : Int) := by omega
            have hb1 : (h : Int) ≤ (c1 : Int) := by have := HM1.out; omega
            have hb2 : (h : Int) ≤ (c2 : Int) := by omega
            have hb3 : (h : Int) < (m1 : Int) := by have := HM1.out; omega
            have hb4 : h < m1 := by have := HM1.out; omega
            go_upto_region 45 with fail
            go_cut [220] from 196 to 219 (fun t220 wx => t220 = .bool false ∧ ∃ m, wx = wc.drewN m)
            case first =>
              go_region_held3 (fun w' => w'.cell? ⟨bp, 4, none⟩ = some (.slice a1 m1 c1)) (first | exact p4 | assumption)
                (first | (refine step_min rfl (.tmp 204) (.tmp 206) rfl m1 h rfl rfl hb4 ?_) | (refine step_min rfl (.tmp 214) (.tmp 216) rfl m1 h rfl rfl hb4 ?_) | (go_at_call 9; refine (equal9 wc.drew _ _ (idsTo Q base I0) HU1.out HU2.out (by rw [HHH.out]; omega)).mono ?_; rintro e w20 ⟨rfl, m20, rfl⟩; have s20 : (wc.drew.drewN m20).cell? ⟨bp, 4, none⟩ = some (.slice a1 m1 c1) := p4))
              all_goals
                go_wp2
                go_meet
                case rel => exact ⟨rfl, _, rfl⟩
            case rest =>
              obtain ⟨rfl, mx, rfl⟩ := hcut
              have HRWX : Hid (Rows (wc.drewN mx) b5 (idsTo Q base I0) pgs2 (frdTo Q I0) (.slice a2 h c2) u19 u20) := HRW.out.more ⟨rfl, rfl, rfl, Nat.le_refl _, fun _ _ _ => rfl⟩
              have HXRX : Hid (RowAt (wc.drewN mx) xb 23 (curX Q base I0 I0)) := HXR.out
              have HBEX : Hid (Below w4.heap.size w4 (wc.drewN mx)) := belowN HEX.out.bel mx
              generalize wc.drewN mx = wd at *
              obtain ⟨i23, hi, hz0, hz1, hz2⟩ := info_parts Ybaf.info23
              obtain ⟨i26, hj, hy0, hy1, hy2⟩ := info_parts Ybaf.info26
              have hc2' : pgs2.length ≤ 1000 := by
                have e : pgs2.length = (pgsTo Q I0).length := by rw [← HPG2.out]; simp
                rw [e, pgsTo_length]; have := hots_le Q I0; have := HI1.out.1; omega
              have hc3' : (frdTo Q I0).length ≤ 1000 := by have := frdTo_length Q I0; have := HI1.out.1; omega
              obtain ⟨n2, HN2⟩ : ∃ x, Hid (x = pgs2.length) := ⟨_, rfl⟩
              obtain ⟨n3, HN3⟩ : ∃ x, Hid (x = (frdTo Q I0).length) := ⟨_, rfl⟩
              rw [← HN2.out] at hc2'
              rw [← HN3.out] at hc3'
              clear p4 hb0 hb1 hb2 hb3 hb4
              go_wp2_with (at_builtin; refine wpList_append_own_at _ rfl _ _ 31 rfl b5 23 i23 (.int .u64 0) 1 8 Ybaf.underlying31 hi hz0 hz1 hz2 rfl (by decide) (.slice a2 h c2) h (u64s (idsTo Q base I0)) rfl (by rw [← HHH.out]; rw [← HHH.out] at HRWX; exact HRWX.out.ids.alloc _) ⟨wd.heap.size, 0, none⟩ 1 1 [.int .u64 y] rfl rfl (cell_one_new _ _ _) (by simp [Value.oneCell']) (maxLen_of _ (by omega)) (by omega) ?d1 ?_)
              case d1 => exact Nat.le_trans HRWX.out.b (Nat.le_succ _)
              intro v18 w8 hown hg _ hv
              have hgA := grown_alloc wd (Obj.cells #[.int .u64 y] 23)
              have hrwA := HRWX.out.more hgA
              have HRW8 : Hid (Rows w8 b5 (idsTo Q base I0 ++ [y]) pgs2 (frdTo Q I0) v18 u19 u20) := hrwA.pushId (by rw [HHH.out]; exact hown) hg (by simpa using hv)
              have HXR8 : Hid (RowAt w8 xb 23 (curX Q base I0 I0)) := (HXRX.out.grown hgA (by simp)).grown hg (not_own (own_ge hrwA.ids xb HEX.out.hxb))
              have HBE8 : Hid (Below w4.heap.size w4 w8) := (HBEX.out.grown hgA HBEX.out.size (fun k hk => nomatch hk)).grown hg (Nat.le_trans HBEX.out.size hgA.size) (fun k hk => by have := (hrwA.ids.lt k hk).1; have := HEX.out.lxb; have := HEX.out.hxb; omega)
              clear hown hg hv hgA hrwA
              have hb10 := branchpage10 w8 so sb xb N c8 I0 S (expAt Q base) (by have := HNI.out; omega) hsb (HBF4.out.below HBE8.out) (fun j hj => ⟨by
                unfold expAt
                split
                · exact inc_u64 _
                · exact (HQ.out.ok j (by have := HNI.out; omega)).old, by
                rw [HXR8.out.cell j, curX_all]
                exact curK_get Q base I0 j (by have := HNI.out; omega)⟩) (by rw [← HPZ.out]; exact hfit)
              rw [HNI.out] at hb10
              have HB10 := Hid.mk' hb10
              clear hb10
              go_wp2_with fail
              refine HB10.out.mono ?_
              rintro e w12 ⟨rfl, hp12, hb12⟩
              obtain ⟨g, HGG⟩ : ∃ x, Hid (x = w8.heap.size) := ⟨_, rfl⟩
              rw [← HGG.out] at hp12 ⊢
              have hgE := grown_of_below hb12
              obtain ⟨BB, HBB⟩ : ∃ x, Hid (x = bbytes S (expAt Q base) N N) := ⟨_, rfl⟩
              rw [← HBB.out] at hp12 HPG
              have HPG12 := Hid.mk' hp12
              have HRW12 := Hid.mk' (HRW8.out.more hgE)
              have HXR12 := Hid.mk' (HXR8.out.grown hgE (by simp))
              have HBE12 : Hid (Below w4.heap.size w4 w12) := HBE8.out.grown hgE HBE8.out.size (fun k hk => nomatch hk)
              have HGB : Hid (b5 ≤ g) := by rw [HGG.out]; exact HRW8.out.b
              clear hp12 hb12 hgE
              go_wp2_with (at_builtin; refine wpList_append_own_at _ rfl _ _ 25 rfl b5 26 i26 (.slice none 0 0) 1 24 Ybaf.underlying25 hj hy0 hy1 hy2 rfl (by decide) u19 n2 (slices pgs2) rfl (by rw [HN2.out]; exact HRW12.out.bufs.alloc _) ⟨w12.heap.size, 0, none⟩ 1 1 [.slice (some ⟨g, 0, none⟩) 4092 4092] rfl rfl (cell_one_new _ _ _) (by simp [Value.oneCell']) (maxLen_of _ (by omega)) (by omega) ?d2 ?_)
              case d2 => exact Nat.le_trans HRW12.out.b (grown_alloc w12 _).size
              intro v19 w13 hown hg _ hv
              have hgA := grown_alloc w12 (Obj.cells #[.slice (some ⟨g, 0, none⟩) 4092 4092] 26)
              have hrwA := HRW12.out.more hgA
              rw [HN2.out] at hown
              have HRW13 : Hid (Rows w13 b5 (idsTo Q base I0 ++ [y]) (pgs2 ++ [(g, BB)]) (frdTo Q I0) v18 v19 u20) := hrwA.pushPage HGB.out (HPG12.out.grown hgA (by simp)) hown hg
              have HXR13 : Hid (RowAt w13 xb 23 (curX Q base I0 I0)) := (HXR12.out.grown hgA (by simp)).grown hg (not_own (own_ge hrwA.bufs xb HEX.out.hxb))
              have HBE13 : Hid (Below w4.heap.size w4 w13) := (HBE12.out.grown hgA HBE12.out.size (fun k hk => nomatch hk)).grown hg (Nat.le_trans HBE12.out.size hgA.size) (fun k hk => by have := (hrwA.bufs.lt k hk).1; have := HEX.out.lxb; have := HEX.out.hxb; omega)
              clear hown hg hv hgA hrwA
              go_upto_if 271 with fail
              go_cut [20] from 271 to 275 (fun t20 we => Rows we b5 (idsTo Q base I0 ++ [y]) (pgs2 ++ [(g, BB)]) (frdTo Q I0 ++ one pid) v18 v19 t20 ∧ RowAt we xb 23 (curX Q base I0 I0) ∧ Below w4.heap.size w4 we)
              case first =>
                by_cases hold : pid = 0
                · have HONE : Hid (frdTo Q I0 ++ one pid = frdTo Q I0) := by simp [Hid, one, hold]
                  have hold' : (pid != 0) = false := by simp [hold]
                  clear hold
                  go_wp2
                  go_meet
                  case rel => exact ⟨by rw [HONE.out]; exact HRW13.out, HXR13.out, HBE13.out⟩
                · have hold' : (pid != 0) = true := by simpa using hold
                  have HONE : Hid (one pid = [pid]) := by simp [Hid, one, hold]
                  clear hold
                  go_wp2_with (at_builtin; refine wpList_append_own_at _ rfl _ _ 31 rfl b5 23 i23 (.int .u64 0) 1 8 Ybaf.underlying31 hi hz0 hz1 hz2 rfl (by decide) u20 n3 (u64s (frdTo Q I0)) rfl (by rw [HN3.out]; exact HRW13.out.freed.alloc _) ⟨w13.heap.size, 0, none⟩ 1 1 [.int .u64 pid] rfl rfl (cell_one_new _ _ _) (by simp [Value.oneCell']) (maxLen_of _ (by omega)) (by omega) ?d3 ?_)
                  case d3 => exact Nat.le_trans HRW13.out.b (grown_alloc w13 _).size
                  intro v20 w14 hown hg _ hv
                  have hgA := grown_alloc w13 (Obj.cells #[.int .u64 pid] 23)
                  have hrwA := HRW13.out.more hgA
                  rw [HN3.out] at hown
                  have HRW14 : Hid (Rows w14 b5 (idsTo Q base I0 ++ [y]) (pgs2 ++ [(g, BB)]) (frdTo Q I0 ++ [pid]) v18 v19 v20) := hrwA.pushFreed hown hg (by simpa using hv)
                  have HXR14 : Hid (RowAt w14 xb 23 (curX Q base I0 I0)) := (HXR13.out.grown hgA (by simp)).grown hg (not_own (own_ge hrwA.freed xb HEX.out.hxb))
                  have HBE14 : Hid (Below w4.heap.size w4 w14) := (HBE13.out.grown hgA HBE13.out.size (fun k hk => nomatch hk)).grown hg (Nat.le_trans HBE13.out.size hgA.size) (fun k hk => by have := (hrwA.freed.lt k hk).1; have := HEX.out.lxb; have := HEX.out.hxb; omega)
                  clear hown hg hv hgA hrwA
                  go_wp2
                  go_meet
                  case rel => exact ⟨by rw [HONE.out]; exact HRW14.out, HXR14.out, HBE14.out⟩
              case rest =>
                obtain ⟨hrwE, hxrE, hbeE⟩ := hcut
                have HRWE := Hid.mk' hrwE
                have HXRE := Hid.mk' hxrE
                have HBEE := Hid.mk' hbeE
                clear hrwE hxrE hbeE
                obtain ⟨a3, c3, hv3⟩ := own_shape' HRWE.out.ids
                subst hv3
                rw [HMM.out]
                have hu5 : U64sAt wc (.slice a1 m1 c1) (idsTo Q base I0 ++ [y]) := (u64s_at HST.out.rows.ids).below HBEE.out
                have hu6 : U64sAt wc (.slice a3 m1 c3) (idsTo Q base I0 ++ [y]) := by
                  have h := u64s_at HRWE.out.ids
                  rw [HMM.out] at h
                  exact h
                have HU5 := Hid.mk' hu5
                have HU6 := Hid.mk' hu6
                clear hu5 hu6
                have hlenA : pages.length = (pgs2 ++ [(g, BB)]).length := by
                  have e : (pages.map (·.2)).length = ((pgs2 ++ [(g, BB)]).map (·.2)).length := by rw [HPG.out, List.map_append, HPG2.out]; simp
                  simpa using e
                obtain ⟨gA, cA, hvA, hxA⟩ := own_pages HST.out.rows.bufs (by rw [hlenA]; simp)
                obtain ⟨gB, cB, hvB, hxB⟩ := own_pages HRWE.out.bufs (by simp)
                subst hvA hvB
                have HXA := Hid.mk' hxA
                have HXB := Hid.mk' hxB
                clear hxA hxB
                rw [← hlenA]
                obtain ⟨L, HL⟩ : ∃ L, Hid (L = pages.length) := ⟨_, rfl⟩
                have HLA := Hid.mk' hlenA
                clear hlenA
                rw [← HL.out]
                have hLb : L ≤ 1001 := by rw [HL.out, HLA.out]; simp; have := HN2.out; omega
                have p4 : wc.cell? ⟨bp, 4, none⟩ = some (.slice a1 m1 c1) := cell_stays HBEE.out (HST.out.pg.cell 4) (Nat.le_refl _)
                have p5 : wc.cell? ⟨bp, 5, none⟩ = some (.slice (some ⟨gA, 0, none⟩) L cA) := by rw [HL.out]; exact cell_stays HBEE.out (HST.out.pg.cell 5) (Nat.le_refl _)
                have n0 : wc.cell? ⟨bn, 0, none⟩ = some (.int .u64 y) := cell_stays HBEE.out (HPR.out.cell 0) (Nat.le_refl _)
                have n1 : wc.cell? ⟨bn, 1, none⟩ = some (.bool false) := cell_stays HBEE.out (HPR.out.cell 1) (Nat.le_refl _)
                have n7 : wc.cell? ⟨bn, 7, none⟩ = some (.slice (some ⟨kb, 0, none⟩) I0 I0) := cell_stays HBEE.out (HPR.out.cell 7) (Nat.le_refl _)
                have t5 : wc.cell? ⟨bt, 5, none⟩ = some vf := cell_stays HBEE.out (HST.out.tr.cell 5) (Nat.le_refl _)
                have HBF2 : Hid (Below w.heap.size w wc) := HB4.out.trans (HBEE.out.mono HB4.out.size)
                go_wp2_with fail
                refine (equal9 _ _ _ (idsTo Q base I0 ++ [y]) HU5.out HU6.out (by rw [HMM.out]; omega)).mono ?_
                rintro e w21 ⟨rfl, m21, rfl⟩
                go_wp2
                go_loopg [24] L (fun gk t24 wr => ∃ j : Nat, j + gk = L ∧ t24 = .int .i64 j ∧ ∃ m, wr = wc.drewN m)
                case atStart => exact ⟨0, by omega, rfl, _, rfl⟩
                case round =>
                  obtain ⟨j, hjL, rfl, m, rfl⟩ := hrel
                  by_cases hlt3 : j < L
                  · obtain ⟨ga, gb, xs, ⟨y1, hy1', hy1e⟩, ⟨y2, hy2', hy2e⟩, hP1, hP2⟩ := same_pages (w1 := w4) (w2 := wc) (A := pages) (B := pgs2 ++ [(g, BB)]) (by rw [HPG.out, List.map_append, HPG2.out]; simp) HST.out.rows.pages HRWE.out.pages j (by rw [← HL.out]; exact hlt3)
                    have HP1 : Hid (PRow wc ga xs) := hP1.below HBEE.out hP1.row.lt
                    have HP2 := Hid.mk' hP2
                    have cA1 : wc.cell? ⟨gA, j, none⟩ = some (.slice (some ⟨ga, 0, none⟩) 4092 4092) := by rw [← hy1e]; exact cell_stays HBEE.out (HXA.out j y1 hy1') (Nat.le_refl _)
                    have cB1 : wc.cell? ⟨gB, j, none⟩ = some (.slice (some ⟨gb, 0, none⟩) 4092 4092) := by rw [← hy2e]; exact HXB.out j y2 hy2'
                    clear hy1' hy2' hy1e hy2e hP1 hP2
                    have HP1q : Hid (PRow (wc.drewN m) ga xs) := HP1.out.drewN m
                    have HP2q : Hid (PRow (wc.drewN m) gb xs) := HP2.out.drewN m
                    have p5q : (wc.drewN m).cell? ⟨bp, 5, none⟩ = some (.slice (some ⟨gA, 0, none⟩) L cA) := p5
                    have cA1q : (wc.drewN m).cell? ⟨gA, j, none⟩ = some (.slice (some ⟨ga, 0, none⟩) 4092 4092) := cA1
                    have cB1q : (wc.drewN m).cell? ⟨gB, j, none⟩ = some (.slice (some ⟨gb, 0, none⟩) 4092 4092) := cB1
                    obtain ⟨wq, hwq⟩ : ∃ wq, wq = wc.drewN m := ⟨_, rfl⟩
                    rw [← hwq] at HP1q HP2q p5q cA1q cB1q ⊢
                    have HWQ := Hid.mk' hwq
                    clear hwq
                    go_wp2_with fail
                    go_quiet (first | (go_at_call 7; exact quiet_at (equal_pages _ ga gb xs (HP1q.out.drewN _) (HP2q.out.drewN _))))
                    go_wp2
                    go_roundg (gk - 1)
                    case rel => exact ⟨j + 1, by omega, by go_num, _, by rw [HWQ.out]; exact drewN_two _ _ _⟩
                    case measure => omega
                  · obtain rfl : j = L := by omega
                    have hk1 : U64sAt wc (.slice (some ⟨kb, 0, none⟩) I0 I0) ((List.range I0).map fun j => if j < I0 then expAt Q base j else (Q j).old) := u64s_row (HKR.out.below HBEE.out HKR.out.lt)
                    have hk2 : U64sAt wc (.slice (some ⟨xb, 0, none⟩) I0 I0) ((List.range I0).map fun j => if j < I0 then expAt Q base j else (Q j).old) := u64s_row (by have h := HXRE.out; rw [curX_all] at h; exact h)
                    have hk3 : U64sAt wc vf (frdTo Q I0 ++ one pid) := (u64s_at HST.out.rows.freed).below HBEE.out
                    have hk4 := u64s_at HRWE.out.freed
                    have HK1 := Hid.mk' hk1
                    have HK2 := Hid.mk' hk2
                    have HK3 := Hid.mk' hk3
                    have HK4 := Hid.mk' hk4
                    clear hk1 hk2 hk3 hk4
                    go_wp2_with fail
                    refine (equal9 _ _ _ _ (U64sAt.drewN HK1.out _) (U64sAt.drewN HK2.out _) (by simp; omega)).mono ?_
                    rintro e w31 ⟨rfl, m31, rfl⟩
                    go_wp2_with fail
                    refine (equal9 _ _ _ _ (U64sAt.drewN HK3.out _) (U64sAt.drewN HK4.out _) (by have := frdTo_length Q I0; have := one_length pid; rw [List.length_append]; omega)).mono ?_
                    rintro e w32 ⟨rfl, m32, rfl⟩
                    go_wp2
                    go_ret
                    exact ⟨rfl, belowN HBF2.out _⟩
end Go.Proofs.YbulkciosFmt
