/-
  'LawS4238CModel' (3).
-/
import Derived.Test.YbulkcitaFill
namespace Go.Proofs.Ybulkcita
open Go.RowKit

theorem Hid.mk' {p : Prop} (h : p) : Hid p := h

set_option maxRecDepth 100000 in
set_option maxHeartbeats 8000000 in
theorem law3 (w : World) (b off n c : Nat) (v : Nat) (G : Nat → Gate) (hg : GatesAt w b off n G) (h0 : 1 ≤ n) (hn : n ≤ 1024) (hv : v < 18446744073709551616) :
    Calls Yba.prog 3 #[.slice (some ⟨b, off, none⟩) n c, .int .u64 v] w fun e w' => e = .returned (.bool true) ∧ Below w.heap.size w w' := by
  obtain ⟨i35, t35, z35, s35, y35⟩ := info_parts Yba.info35
  obtain ⟨i29, t29, z29, s29, y29⟩ := info_parts Yba.info29
  obtain ⟨i24, t24, z24, s24, y24⟩ := info_parts Yba.info24
  obtain ⟨i5, t5, z5, s5, y5⟩ := info_parts Yba.info5
  have e0 : ((n : Int) == 0) = false := by simp; omega
  have e1 : decide (1024 < (n : Int)) = false := by simp; omega
  go_enter Yba.func3, Yba.ntmps3
  go_wp2_with (at_make; refine wpList_make_full _ rfl _ _ 25 rfl w.heap.size 35 i35 _ 5 Yba.underlying25 t35 z35 s35 _ _ _ _ n rfl rfl ?c1 ?c2 ?c3 ?c4 ?c5 ?_)
  case c1 => rfl
  case c2 => rfl
  case c3 => rw [y35]; omega
  case c4 => simp only [maxLen]; omega
  case c5 => exact Nat.le_refl _
  intro w1 hown1 hg1
  obtain ⟨c0, r01⟩ := row_made hown1
  have hb1 : w.heap.size ≤ w1.heap.size := hg1.size
  have bel1 : Below w.heap.size w w1 := (Below.refl _ _).grown hg1 (Nat.le_refl _) (fun k hk => nomatch hk)
  clear hown1
  go_wp2_with (at_make; refine wpList_make_full _ rfl _ _ 26 rfl w.heap.size 29 i29 _ 1 Yba.underlying26 t29 z29 s29 _ _ _ _ n rfl rfl ?c1 ?c2 ?c3 ?c4 ?c5 ?_)
  case c1 => rfl
  case c2 => rfl
  case c3 => rw [y29]; omega
  case c4 => simp only [maxLen]; omega
  case c5 => exact hb1
  intro w2 hown2 hg2
  obtain ⟨c1, r12⟩ := row_made hown2
  have r02 := r01.grown hg2
  have hb2 : w.heap.size ≤ w2.heap.size := Nat.le_trans hb1 hg2.size
  have bel2 : Below w.heap.size w w2 := bel1.grown hg2 hb1 (fun k hk => nomatch hk)
  have l1 := r01.lt
  clear hown2
  go_wp2_with (at_make; refine wpList_make_full _ rfl _ _ 27 rfl w.heap.size 24 i24 _ 1 Yba.underlying27 t24 z24 s24 _ _ _ _ (3 * n) rfl rfl ?c1 ?c2 ?c3 ?c4 ?c5 ?_)
  case c1 => omega
  case c2 => omega
  case c3 => rw [y24]; omega
  case c4 => simp only [maxLen]; omega
  case c5 => exact hb2
  intro w3 hown3 hg3
  obtain ⟨c2, r23⟩ := row_made hown3
  have r03 := r02.grown hg3
  have r13 := r12.grown hg3
  have hb3 : w.heap.size ≤ w3.heap.size := Nat.le_trans hb2 hg3.size
  have bel3 : Below w.heap.size w w3 := bel2.grown hg3 hb2 (fun k hk => nomatch hk)
  have l2 := r12.lt
  clear hown3
  go_wp2_with (at_make; refine wpList_make_full _ rfl _ _ 28 rfl w.heap.size 5 i5 _ 1 Yba.underlying28 t5 z5 s5 _ _ _ _ n rfl rfl ?c1 ?c2 ?c3 ?c4 ?c5 ?_)
  case c1 => rfl
  case c2 => rfl
  case c3 => rw [y5]; omega
  case c4 => simp only [maxLen]; omega
  case c5 => exact hb3
  intro w4 hown4 hg4
  obtain ⟨c3, r34⟩ := row_made hown4
  have r04 := r03.grown hg4
  have r14 := r13.grown hg4
  have r24 := r23.grown hg4
  have bel4 : Below w.heap.size w w4 := bel3.grown hg4 hb3 (fun k hk => nomatch hk)
  have l3 := r23.lt
  clear hown4
  have HF : Hid (Fill w w4 w.heap.size w1.heap.size w2.heap.size w3.heap.size n 0 G) :=
    ⟨bel4, ⟨c0, r04, fun _ h => absurd h (by omega)⟩, ⟨c1, by simpa using r14, fun _ h => absurd h (by omega)⟩, ⟨c2, by simpa using r24, fun _ h => absurd h (by omega)⟩, ⟨c3, by simpa using r34, fun _ h => absurd h (by omega)⟩⟩
  clear r01 r12 r02 r23 r03 r13 r34 r04 r14 r24 bel1 bel2 bel3 bel4 hg1 hg2 hg3 hg4 hb1 hb2 hb3
  generalize w1.heap.size = B1 at HF l1 l2 ⊢
  generalize w2.heap.size = B2 at HF l2 l3 ⊢
  generalize w3.heap.size = B3 at HF l3 ⊢
  have HG : Hid (GatesAt w b off n G) := hg
  clear hg
  clear t35 z35 s35 y35 t29 z29 s29 y29 t24 z24 s24 y24 t5 z5 s5 y5
  go_wp2
  go_loopg [11] n (fun gk t wr => ∃ i : Nat, i + gk = n ∧ t = .int .i64 i ∧ Fill w wr w.heap.size B1 B2 B3 n i G)
  case atStart => exact ⟨0, by omega, rfl, HF.out⟩
  case round =>
    obtain ⟨i, hi, rfl, hf⟩ := hrel
    by_cases hlt : i < n
    · have HF' : Hid (Fill w wr w.heap.size B1 B2 B3 n i G) := hf
      have hG := HG.out.below hf.bel
      have f := HG.out.fits i hlt
      have p0 := hG.gk i hlt
      have HP : Hid (GatesAt wr b off n G) := hG
      clear hG
      obtain ⟨f0, f1, f2, f3⟩ := f
      obtain ⟨⟨q0, r0, t0⟩, ⟨q1, r1, t1⟩, ⟨q2, r2, t2⟩, ⟨q3, r3, t3⟩⟩ := And.intro hf.gates (And.intro hf.vals (And.intro hf.lits hf.kinds))
      have bel := hf.bel
      have T0 := Hid.mk' t0
      have T1 := Hid.mk' t1
      have T2 := Hid.mk' t2
      have T3 := Hid.mk' t3
      clear hf t0 t1 t2 t3 HF'
      have s0 := r0.lt
      have s1 := r1.lt
      have s2 := r2.lt
      have s3 := r3.lt
      have hb := HG.out.lt
      go_wp2_with (refine wpList_store_to rfl 5 (.tmp 57) (.tmp 56) rfl rfl B3 i (.int .u8 (((G i).k % 4 : Nat))) rfl ?c0 5 n q3 r3 ?c1 ?c2 ?c3 ?_)
      case c0 => rfl
      case c1 => kernel_rfl
      case c2 => simp [Value.cells]; omega
      case c3 => simp [Value.cells, Value.oneCell']
      intro w5 y5 R5 hu5 G5
      have U5 : Hid (Upd q3 y5 i (Value.cells (.int .u8 (((G i).k % 4 : Nat)))).toList) := hu5
      clear hu5
      have r05 := r0.other G5 (by omega)
      have r15 := r1.other G5 (by omega)
      have r25 := r2.other G5 (by omega)
      have hP5 := HP.out.other G5 (by omega)
      have bel5 := bel.grown G5 bel.size (fun k hk => by simp at hk; omega)
      have p1 := hP5.ga i hlt
      have p2 := hP5.gb i hlt
      have p3 := hP5.gc i hlt
      have HP5 : Hid (GatesAt w5 b off n G) := hP5
      clear hP5 HP p0 r0 r1 r2 r3 bel s0 s1 s2 s3 G5
      go_wp2_with (refine wpList_store_to rfl 24 (.tmp 83) (.tmp 82) rfl rfl B2 (3 * i) (.int .u32 (((G i).a % (2 * n) : Nat))) rfl ?c0 24 (3 * n) q2 r25 ?c1 ?c2 ?c3 ?_)
      case c0 => rfl
      case c1 => kernel_rfl
      case c2 => simp [Value.cells]; omega
      case c3 => simp [Value.cells, Value.oneCell']
      intro w6 y6 R6 hu6 G6
      have U6 : Hid (Upd q2 y6 (3 * i) (Value.cells (.int .u32 (((G i).a % (2 * n) : Nat)))).toList) := hu6
      clear hu6
      go_wp2_with (refine wpList_store_to rfl 24 (.tmp 89) (.tmp 88) rfl rfl B2 (3 * i + 1) (.int .u32 (((G i).b % (2 * n) : Nat))) rfl ?c0 24 (3 * n) y6 R6 ?c1 ?c2 ?c3 ?_)
      case c0 => rfl
      case c1 => kernel_rfl
      case c2 => simp [Value.cells]; omega
      case c3 => simp [Value.cells, Value.oneCell']
      intro w7 y7 R7 hu7 G7
      have U7 : Hid (Upd y6 y7 (3 * i + 1) (Value.cells (.int .u32 (((G i).b % (2 * n) : Nat)))).toList) := hu7
      clear hu7
      go_wp2_with (refine wpList_store_to rfl 24 (.tmp 95) (.tmp 94) rfl rfl B2 (3 * i + 2) (.int .u32 (((G i).c % (2 * n) : Nat))) rfl ?c0 24 (3 * n) y7 R7 ?c1 ?c2 ?c3 ?_)
      case c0 => rfl
      case c1 => kernel_rfl
      case c2 => simp [Value.cells]; omega
      case c3 => simp [Value.cells, Value.oneCell']
      intro w8 y8 R8 hu8 G8
      have U8 : Hid (Upd y7 y8 (3 * i + 2) (Value.cells (.int .u32 (((G i).c % (2 * n) : Nat)))).toList) := hu8
      clear hu8
      have r06 := ((r05.other G6 (by omega)).other G7 (by omega)).other G8 (by omega)
      have r16 := ((r15.other G6 (by omega)).other G7 (by omega)).other G8 (by omega)
      have r36 := ((R5.other G6 (by omega)).other G7 (by omega)).other G8 (by omega)
      have hP8 := ((HP5.out.other G6 (by omega)).other G7 (by omega)).other G8 (by omega)
      have bel6 := bel5.grown G6 bel5.size (fun k hk => by simp at hk; omega)
      have bel7 := bel6.grown G7 bel6.size (fun k hk => by simp at hk; omega)
      have bel8 := bel7.grown G8 bel7.size (fun k hk => by simp at hk; omega)
      have p4 := hP8.gv i hlt
      have HP8 : Hid (GatesAt w8 b off n G) := hP8
      clear hP8 HP5 p1 p2 p3 r05 r15 R5 r25 R6 R7 G6 G7 G8 bel5 bel6 bel7
      have s0 := r06.lt
      have s1 := r16.lt
      have s2 := R8.lt
      have s3 := r36.lt
      have hk4 : (G i).k % 4 < 4 := Nat.mod_lt _ (by omega)
      rcases (by omega : (G i).k % 4 = 0 ∨ (G i).k % 4 = 1 ∨ (G i).k % 4 = 2 ∨ (G i).k % 4 = 3) with k0 | k0 | k0 | k0
      · have hkk : (G i).k % 4 = 0 := by omega
        go_wp2_with (refine wpList_store_new rfl 35 (.tmp 116) (.tmp 115) rfl rfl w.heap.size (i * 5) (.agg #[.int .u8 0, .int .i64 0, .int .u32 (((G i).a % (2 * n) : Nat)), .int .u32 (((G i).b % (2 * n) : Nat)), .int .u32 (((G i).c % (2 * n) : Nat))]) rfl ?c0 35 (n * 5) q0 w8 ?cw r06 ?c1 ?c2 ?c3 ?_)
        case c0 => rfl
        case cw => repeat (first | exact World.grownBy_alloc _ _ _ | refine grown_new_set ?_ _ (Nat.le_refl _) _)
        case c1 => kernel_rfl
        case c2 => simp [Value.cells]; omega
        case c3 => simp [Value.cells, Value.oneCell']
        intro w9 y9 R9 hu9 G9
        have U9 := Hid.mk' hu9
        clear hu9
        have r19 := r16.other G9 (by omega)
        have r29 := R8.other G9 (by omega)
        have r39 := r36.other G9 (by omega)
        have bel9 := bel8.grown G9 bel8.size (fun k hk => by simp at hk; omega)
        have p4 := (HP8.out.other G9 (by omega)).gv i hlt
        clear G9 R8 r36 r16 r06 bel8 HP8
        go_wp2_with (refine wpList_store_to rfl 29 (.tmp 124) (.tmp 123) rfl rfl B1 i (.int .i8 (G i).v) rfl ?c0 29 n q1 r19 ?c1 ?c2 ?c3 ?_)
        case c0 => rfl
        case c1 => kernel_rfl
        case c2 => simp [Value.cells]; omega
        case c3 => simp [Value.cells, Value.oneCell']
        intro w10 y10 R10 hu10 G10
        have HS : Hid (Fill w w10 w.heap.size B1 B2 B3 n (i + 1) G) :=
          fill_step (bel9.grown G10 bel9.size (fun k hk => by simp at hk; omega)) (R9.other G10 (by omega)) R10 (r29.other G10 (by omega)) (r39.other G10 (by omega)) T0.out T1.out T2.out T3.out U5.out U6.out U7.out U8.out (by rw [hkk]; rfl) U9.out hu10
        clear G10 hu10 R10 p4 r19 r29 r39 bel9 R9 hkk
        go_wp2
        go_roundg (gk - 1)
        case rel => exact ⟨i + 1, by omega, by go_num, HS.out⟩
        case measure => omega
      · have hkk : (G i).k % 4 = 1 := by omega
        go_wp2_with (refine wpList_store_new rfl 35 (.tmp 116) (.tmp 115) rfl rfl w.heap.size (i * 5) (.agg #[.int .u8 1, .int .i64 0, .int .u32 (((G i).a % (2 * n) : Nat)), .int .u32 (((G i).b % (2 * n) : Nat)), .int .u32 (((G i).c % (2 * n) : Nat))]) rfl ?c0 35 (n * 5) q0 w8 ?cw r06 ?c1 ?c2 ?c3 ?_)
        case c0 => rfl
        case cw => repeat (first | exact World.grownBy_alloc _ _ _ | refine grown_new_set ?_ _ (Nat.le_refl _) _)
        case c1 => kernel_rfl
        case c2 => simp [Value.cells]; omega
        case c3 => simp [Value.cells, Value.oneCell']
        intro w9 y9 R9 hu9 G9
        have U9 := Hid.mk' hu9
        clear hu9
        have r19 := r16.other G9 (by omega)
        have r29 := R8.other G9 (by omega)
        have r39 := r36.other G9 (by omega)
        have bel9 := bel8.grown G9 bel8.size (fun k hk => by simp at hk; omega)
        have p4 := (HP8.out.other G9 (by omega)).gv i hlt
        clear G9 R8 r36 r16 r06 bel8 HP8
        go_wp2_with (refine wpList_store_to rfl 29 (.tmp 124) (.tmp 123) rfl rfl B1 i (.int .i8 (G i).v) rfl ?c0 29 n q1 r19 ?c1 ?c2 ?c3 ?_)
        case c0 => rfl
        case c1 => kernel_rfl
        case c2 => simp [Value.cells]; omega
        case c3 => simp [Value.cells, Value.oneCell']
        intro w10 y10 R10 hu10 G10
        have HS : Hid (Fill w w10 w.heap.size B1 B2 B3 n (i + 1) G) :=
          fill_step (bel9.grown G10 bel9.size (fun k hk => by simp at hk; omega)) (R9.other G10 (by omega)) R10 (r29.other G10 (by omega)) (r39.other G10 (by omega)) T0.out T1.out T2.out T3.out U5.out U6.out U7.out U8.out (by rw [hkk]; rfl) U9.out hu10
        clear G10 hu10 R10 p4 r19 r29 r39 bel9 R9 hkk
        go_wp2
        go_roundg (gk - 1)
        case rel => exact ⟨i + 1, by omega, by go_num, HS.out⟩
        case measure => omega
      · have hkk : (G i).k % 4 = 2 := by omega
        go_wp2_with (refine wpList_store_new rfl 35 (.tmp 116) (.tmp 115) rfl rfl w.heap.size (i * 5) (.agg #[.int .u8 2, .int .i64 0, .int .u32 (((G i).a % (2 * n) : Nat)), .int .u32 (((G i).b % (2 * n) : Nat)), .int .u32 (((G i).c % (2 * n) : Nat))]) rfl ?c0 35 (n * 5) q0 w8 ?cw r06 ?c1 ?c2 ?c3 ?_)
        case c0 => rfl
        case cw => repeat (first | exact World.grownBy_alloc _ _ _ | refine grown_new_set ?_ _ (Nat.le_refl _) _)
        case c1 => kernel_rfl
        case c2 => simp [Value.cells]; omega
        case c3 => simp [Value.cells, Value.oneCell']
        intro w9 y9 R9 hu9 G9
        have U9 := Hid.mk' hu9
        clear hu9
        have r19 := r16.other G9 (by omega)
        have r29 := R8.other G9 (by omega)
        have r39 := r36.other G9 (by omega)
        have bel9 := bel8.grown G9 bel8.size (fun k hk => by simp at hk; omega)
        have p4 := (HP8.out.other G9 (by omega)).gv i hlt
        clear G9 R8 r36 r16 r06 bel8 HP8
        go_wp2_with (refine wpList_store_to rfl 29 (.tmp 124) (.tmp 123) rfl rfl B1 i (.int .i8 (G i).v) rfl ?c0 29 n q1 r19 ?c1 ?c2 ?c3 ?_)
        case c0 => rfl
        case c1 => kernel_rfl
        case c2 => simp [Value.cells]; omega
        case c3 => simp [Value.cells, Value.oneCell']
        intro w10 y10 R10 hu10 G10
        have HS : Hid (Fill w w10 w.heap.size B1 B2 B3 n (i + 1) G) :=
          fill_step (bel9.grown G10 bel9.size (fun k hk => by simp at hk; omega)) (R9.other G10 (by omega)) R10 (r29.other G10 (by omega)) (r39.other G10 (by omega)) T0.out T1.out T2.out T3.out U5.out U6.out U7.out U8.out (by rw [hkk]; rfl) U9.out hu10
        clear G10 hu10 R10 p4 r19 r29 r39 bel9 R9 hkk
        go_wp2
        go_roundg (gk - 1)
        case rel => exact ⟨i + 1, by omega, by go_num, HS.out⟩
        case measure => omega
      · have hkk : (G i).k % 4 = 3 := by omega
        go_wp2_with (refine wpList_store_new rfl 35 (.tmp 116) (.tmp 115) rfl rfl w.heap.size (i * 5) (.agg #[.int .u8 3, .int .i64 0, .int .u32 (((G i).a % (2 * n) : Nat)), .int .u32 (((G i).b % (2 * n) : Nat)), .int .u32 (((G i).c % (2 * n) : Nat))]) rfl ?c0 35 (n * 5) q0 w8 ?cw r06 ?c1 ?c2 ?c3 ?_)
        case c0 => rfl
        case cw => repeat (first | exact World.grownBy_alloc _ _ _ | refine grown_new_set ?_ _ (Nat.le_refl _) _)
        case c1 => kernel_rfl
        case c2 => simp [Value.cells]; omega
        case c3 => simp [Value.cells, Value.oneCell']
        intro w9 y9 R9 hu9 G9
        have U9 := Hid.mk' hu9
        clear hu9
        have r19 := r16.other G9 (by omega)
        have r29 := R8.other G9 (by omega)
        have r39 := r36.other G9 (by omega)
        have bel9 := bel8.grown G9 bel8.size (fun k hk => by simp at hk; omega)
        have p4 := (HP8.out.other G9 (by omega)).gv i hlt
        clear G9 R8 r36 r16 r06 bel8 HP8
        go_wp2_with (refine wpList_store_to rfl 29 (.tmp 124) (.tmp 123) rfl rfl B1 i (.int .i8 (G i).v) rfl ?c0 29 n q1 r19 ?c1 ?c2 ?c3 ?_)
        case c0 => rfl
        case c1 => kernel_rfl
        case c2 => simp [Value.cells]; omega
        case c3 => simp [Value.cells, Value.oneCell']
        intro w10 y10 R10 hu10 G10
        have HS : Hid (Fill w w10 w.heap.size B1 B2 B3 n (i + 1) G) :=
          fill_step (bel9.grown G10 bel9.size (fun k hk => by simp at hk; omega)) (R9.other G10 (by omega)) R10 (r29.other G10 (by omega)) (r39.other G10 (by omega)) T0.out T1.out T2.out T3.out U5.out U6.out U7.out U8.out (by rw [hkk]; rfl) U9.out hu10
        clear G10 hu10 R10 p4 r19 r29 r39 bel9 R9 hkk
        go_wp2
        go_roundg (gk - 1)
        case rel => exact ⟨i + 1, by omega, by go_num, HS.out⟩
        case measure => omega
    · have hf' : Fill w wr w.heap.size B1 B2 B3 n n G := by
        have e : i = n := by omega
        rw [e] at hf
        exact hf
      have HB : Hid (Below w.heap.size w wr) := hf'.bel
      have HU : Hid (Full wr w.heap.size B1 B2 B3 n G) := hf'.full
      have HP : Hid (GatesAt wr b off n G) := HG.out.below hf'.bel
      clear hf hf' HF HG
      have hvn : v % n < n := Nat.mod_lt _ (by omega)
      have h2n : 0 < 2 * n := by omega
      go_wp2_with fail
      rw [show (v : Int) % (n : Int) = ((v % n : Nat) : Int) from rfl]
      generalize v % n = t at hvn ⊢
      have belW := ((Below.refl wr.heap.size wr).alloc (Nat.le_refl _) (.cells #[.pointer none, .pointer none, .int .u32 0, .slice none 0 0, .slice (some ⟨w.heap.size, 0, none⟩) n n, .slice none 0 0, .map none, .slice none 0 0, .map none, .int .u32 0] 49)).alloc (by simp) (.cells #[.pointer (some ⟨wr.heap.size, 0, none⟩), .int .u32 0, .slice (some ⟨B1, 0, none⟩) n n, .slice none 0 0] 53)
      have UW := HU.out.below belW
      have gW := HP.out.below belW
      have bW := HB.out.trans (belW.mono HB.out.size)
      refine (works4 _ (wr.heap.size + 1) wr.heap.size w.heap.size B1 n (fun j => (G j).v) t ((G t).k % 4) ((G t).a % (2 * n)) ((G t).b % (2 * n)) ((G t).c % (2 * n)) hvn (Nat.mod_lt _ h2n) (Nat.mod_lt _ h2n) (Nat.mod_lt _ h2n) hn ?_ ?_ (UW.gk t hvn) (UW.gz t hvn) (UW.ga t hvn) (UW.gb t hvn) (UW.gc t hvn) ⟨?_, UW.vv⟩).mono ?_
      · simp
      · simp
      · simp
      rintro r w3 ⟨rfl, bel3⟩
      obtain ⟨sB, hsB⟩ : ∃ sB, sB = wr.heap.size + 1 := ⟨_, rfl⟩
      obtain ⟨eB, heB⟩ : ∃ eB, eB = wr.heap.size := ⟨_, rfl⟩
      have d0 : w3.cell? ⟨sB, 0, none⟩ = some (.pointer (some ⟨eB, 0, none⟩)) := cell_stays bel3 (by rw [hsB, heB]; simp) (Nat.le_refl _)
      have d2 : w3.cell? ⟨sB, 2, none⟩ = some (.slice (some ⟨B1, 0, none⟩) n n) := cell_stays bel3 (by rw [hsB]; simp) (Nat.le_refl _)
      have d4 : w3.cell? ⟨eB, 4, none⟩ = some (.slice (some ⟨w.heap.size, 0, none⟩) n n) := cell_stays bel3 (by rw [heB]; simp) (Nat.le_refl _)
      have HU3 : Hid (Full w3 w.heap.size B1 B2 B3 n G) := UW.below bel3
      have HP3 : Hid (GatesAt w3 b off n G) := gW.below bel3
      have HB3 : Hid (Below w.heap.size w w3) := bW.trans (bel3.mono bW.size)
      rw [← hsB, ← heB]
      clear hsB heB bel3 UW gW bW belW HU HP HB
      obtain ⟨r, HR⟩ : ∃ r, Hid (r = worked (fun j => (G j).v) ((G t).k % 4) ((G t).a % (2 * n)) ((G t).b % (2 * n)) ((G t).c % (2 * n))) := ⟨_, rfl⟩
      rw [← HR.out]
      have m0 := HU3.out.kk t hvn
      have m1 := HU3.out.la t hvn
      have m2 := HU3.out.lb t hvn
      have m3 := HU3.out.lc t hvn
      have ha : (G t).a % (2 * n) < 2 * n := Nat.mod_lt _ h2n
      have hb : (G t).b % (2 * n) < 2 * n := Nat.mod_lt _ h2n
      have hc : (G t).c % (2 * n) < 2 * n := Nat.mod_lt _ h2n
      have HV : Hid (∀ j, j < n → w3.cell? ⟨B1, j, none⟩ = some (.int .i8 (G j).v)) := HU3.out.vv
      generalize (G t).k % 4 = k at m0 HR
      generalize (G t).a % (2 * n) = la at m1 ha HR
      generalize (G t).b % (2 * n) = lb at m2 hb HR
      generalize (G t).c % (2 * n) = lc at m3 hc HR
      have l3 : 3 * t < 3 * n := by omega
      have l4 : 3 * t + 1 < 3 * n := by omega
      have l5 : 3 * t + 2 < 3 * n := by omega
      go_upto_block 3 with fail
      go_cut [21] from 144 to 187 (fun t21 w' => t21 = .bool r ∧ w' = w3)
      case first =>
        by_cases k2 : k = 2
        · have HW : Hid (r = (lit (fun j => (G j).v) la && lit (fun j => (G j).v) lb)) := show _ = _ by rw [HR.out]; simp [worked, k2]
          have k2' : ((k : Int) == 2) = true := by simp [k2]
          clear k2 HR
          go_wp2_with fail
          refine (zholds5 w3 B1 n (fun j => (G j).v) la ha hn HV.out).mono ?_
          rintro e1 w4 ⟨rfl, rfl⟩
          cases hl : lit (fun j => (G j).v) la with
          | true =>
            go_wp2_with fail
            refine (zholds5 w4 B1 n (fun j => (G j).v) lb hb hn HV.out).mono ?_
            rintro e1 w5 ⟨rfl, rfl⟩
            go_wp2
            go_meet
            case rel => exact ⟨by rw [HW.out, hl]; simp, rfl⟩
          | false =>
            go_wp2
            go_meet
            case rel => exact ⟨by rw [HW.out, hl]; simp, rfl⟩
        · have k2' : ((k : Int) == 2) = false := by simp; omega
          by_cases k3 : k = 3
          · have HW : Hid (r = (if lit (fun j => (G j).v) la then lit (fun j => (G j).v) lb else lit (fun j => (G j).v) lc)) := show _ = _ by rw [HR.out]; simp [worked, k3]
            have k3' : ((k : Int) == 3) = true := by simp [k3]
            clear k2 k3 HR
            go_wp2_with fail
            refine (zholds5 w3 B1 n (fun j => (G j).v) la ha hn HV.out).mono ?_
            rintro e1 w4 ⟨rfl, rfl⟩
            cases hl : lit (fun j => (G j).v) la with
            | true =>
              go_wp2_with fail
              refine (zholds5 w4 B1 n (fun j => (G j).v) lb hb hn HV.out).mono ?_
              rintro e1 w5 ⟨rfl, rfl⟩
              go_wp2
              go_meet
              case rel => exact ⟨by rw [HW.out, hl]; simp, rfl⟩
            | false =>
              go_wp2_with fail
              refine (zholds5 w4 B1 n (fun j => (G j).v) lc hc hn HV.out).mono ?_
              rintro e1 w5 ⟨rfl, rfl⟩
              go_wp2
              go_meet
              case rel => exact ⟨by rw [HW.out, hl]; simp, rfl⟩
          · have HW : Hid (r = false) := show _ = _ by rw [HR.out]; simp [worked, k2, k3]
            have k3' : ((k : Int) == 3) = false := by simp; omega
            clear k2 k3 HR
            go_wp2
            go_meet
            case rel => exact ⟨by rw [HW.out], rfl⟩
      case rest =>
        obtain ⟨rfl, hwc⟩ := hcut
        subst hwc
        clear HV m0 m1 m2 m3 ha hb hc HR l3 l4 l5
        rename World => w3
        have HL : Hid (Last w w3 b off n w.heap.size B1 B2 B3 sB eB G) := ⟨HB3.out, HU3.out, HP3.out, d0, d2, d4⟩
        clear HB3 HU3 HP3 d0 d2 d4
        go_wp2
        go_loopg [22] n (fun gk t wr => ∃ i : Nat, i + gk = n ∧ t = .int .i64 i ∧ Last w wr b off n w.heap.size B1 B2 B3 sB eB G)
        case atStart => exact ⟨0, by omega, rfl, HL.out⟩
        case round =>
          obtain ⟨j, hj, rfl, hl⟩ := hrel
          rename World => wz
          have HL : Hid (Last w wz b off n w.heap.size B1 B2 B3 sB eB G) := hl
          by_cases hlt : j < n
          · have d0 := hl.d0
            have d2 := hl.d2
            have d4 := hl.d4
            have v0 := hl.full.vv j hlt
            have v1 := hl.gates.gv j hlt
            have a0 := hl.full.ga j hlt
            have a1 := hl.full.gb j hlt
            have a2 := hl.full.gc j hlt
            have b0 := hl.full.la j hlt
            have b1 := hl.full.lb j hlt
            have b2 := hl.full.lc j hlt
            clear hl
            generalize (G j).v = gv at v0 v1
            generalize (G j).a % (2 * n) = ga at a0 b0
            generalize (G j).b % (2 * n) = gb at a1 b1
            generalize (G j).c % (2 * n) = gc at a2 b2
            have l3 : 3 * j < 3 * n := by omega
            have l4 : 3 * j + 1 < 3 * n := by omega
            have l5 : 3 * j + 2 < 3 * n := by omega
            go_wp2
            go_quiet (fail)
            go_wp2
            generalize hN : 3 * n = N at l3 l4 l5 ⊢
            have e3 : IntKind.i64.wrap (3 * (j : Int)) = ((3 * j : Nat) : Int) := by rw [IntKind.wrap_i64]; omega
            have e4 : IntKind.i64.wrap (((3 * j : Nat) : Int) + 1) = ((3 * j + 1 : Nat) : Int) := by rw [IntKind.wrap_i64]; omega
            have e5 : IntKind.i64.wrap (((3 * j : Nat) : Int) + 2) = ((3 * j + 2 : Nat) : Int) := by rw [IntKind.wrap_i64]; omega
            generalize 3 * j + 2 = J2 at b2 l5 e5
            generalize 3 * j + 1 = J1 at b1 l4 e4
            generalize 3 * j = J at b0 l3 e3 e4 e5
            go_quiet (fail)
            go_wp2
            subst hN
            go_roundg (gk - 1)
            case rel => exact ⟨j + 1, by omega, by go_num, HL.out.drewN _⟩
            case measure => omega
          · go_wp2
            go_ret
            exact ⟨rfl, HL.out.bel⟩

end Go.Proofs.Ybulkcita
