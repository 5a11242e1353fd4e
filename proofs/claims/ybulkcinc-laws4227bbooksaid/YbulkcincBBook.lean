/-
  'LawS4227BBook' (number 5): the walk.
-/
import Derived.Test.YbulkcincBEvents
import Derived.Test.YbulkcincBLadder
import Derived.Test.YbulkcincBest
import Derived.Test.YbulkcincVbook2
namespace Go.Proofs.Ybulkcinc
open Go.RowKit

theorem ChainAt.below {w w' : World} (hb : Below w.heap.size w w') : ∀ {l : List Ord} {a : Option Addr}, ChainAt w l a → ChainAt w' l a
  | [], _, h => h
  | o :: r, a, h => by
    obtain ⟨b, nx, e, c6, c7, c8, c9, c10, c15, hr⟩ := h
    have hlt := World.block_lt_of_cell? w _ c6
    have hc : ∀ o v, w.cell? ⟨b, o, none⟩ = some v → w'.cell? ⟨b, o, none⟩ = some v := fun o v h => (hb.cell (p := ⟨b, o, none⟩) hlt).trans h
    exact ⟨b, nx, e, hc _ _ c6, hc _ _ c7, hc _ _ c8, hc _ _ c9, hc _ _ c10, hc _ _ c15, ChainAt.below hb hr⟩

theorem LevelsAt.below {w w' : World} {a : Option Addr} {n : Nat} {C : Nat → List Ord} (h : LevelsAt w a n C) (hb : Below w.heap.size w w') : LevelsAt w' a n C := by
  intro i hi
  obtain ⟨g, vb, hd, ha, h1, h2, h3⟩ := h i hi
  exact ⟨g, vb, hd, ha, (hb.cell (p := ⟨g, _, none⟩) (World.block_lt_of_cell? w _ h1)).trans h1, (hb.cell (p := ⟨vb, _, none⟩) (World.block_lt_of_cell? w _ h2)).trans h2, h3.below hb⟩

/-- The first entry of a map that has just been made. -/
theorem upd_first {P : Program} {t k e : TypeId} (ht : P.underlying t = some (.map k e)) (hk : P.underlying k = some .string) (W : World) (r : Nat) (s : ByteArray) (v : Value) (hr : r = W.heap.size) :
    (Instr.mapUpdate t (.map (some r)) (.string s) v).run P (W.alloc (.map #[] 0)) = .ok () (W.alloc (.map #[⟨.string s, v, 0⟩] 1)) := by
  subst hr
  have hm := heap_alloc_new W (.map #[] 0)
  have hc := MapKept.run_checkKey (P := P) (w := W.alloc (.map #[] 0)) (k := .string s) hk (by simp [MapKept.IsKey]) false 9999
  have hg := MapKept.run_findKey (P := P) (w := W.alloc (.map #[] 0)) (k := .string s) (l := []) (a := none) hk rfl
  simp only [Instr.mapUpdate, Sem.run_bind, run_underlying ht, Result.andThen, MapKept.run_getObj_map hm, hc, hg]
  rw [MapKept.run_setObj_map _ hm]
  congr 1
  show ({ W with heap := (W.heap.push (.map #[] 0)).setIfInBounds W.heap.size (.map #[⟨.string s, v, 0⟩] 1) } : World) = { W with heap := W.heap.push (.map #[⟨.string s, v, 0⟩] 1) }
  congr 1
  apply Array.ext_getElem?
  intro i
  by_cases hi : W.heap.size = i
  · subst hi
    simp
  · simp [Array.getElem?_push, hi, Ne.symm hi]

/-- The world behind the making of the book and the engine. -/
def bookWorld (w2 : World) (key : ByteArray) (x2 x3 x5 x6 : Value) : World :=
  ((((w2.alloc (.map #[] 0)).alloc (.cells #[.pointer none, .map none, x2, x3, .int .i64 1, x5, x6, .int .i64 (-1), .map (some w2.heap.size), .int .i64 0, .int .i64 0] 47)).alloc
    (.map #[⟨.string key, .pointer (some ⟨w2.heap.size + 1, 0, none⟩), 0⟩] 1)).alloc (.map #[] 0)).alloc (.cells #[.map (some (w2.heap.size + 1 + 1)), .map (some (w2.heap.size + 1 + 1 + 1))] 31)

theorem bookWorld_facts (w2 : World) (key : ByteArray) (x2 x3 x5 x6 : Value) :
    Below w2.heap.size w2 (bookWorld w2 key x2 x3 x5 x6) ∧ w2.heap.size + 5 = (bookWorld w2 key x2 x3 x5 x6).heap.size ∧ (bookWorld w2 key x2 x3 x5 x6).cell? ⟨w2.heap.size + 4, 0, none⟩ = some (.map (some (w2.heap.size + 2))) ∧
      (bookWorld w2 key x2 x3 x5 x6).heap[w2.heap.size + 2]? = some (.map #[⟨.string key, .pointer (some ⟨w2.heap.size + 1, 0, none⟩), 0⟩] 1) ∧
      (bookWorld w2 key x2 x3 x5 x6).heap[w2.heap.size + 1]? = some (.cells #[.pointer none, .map none, x2, x3, .int .i64 1, x5, x6, .int .i64 (-1), .map (some w2.heap.size), .int .i64 0, .int .i64 0] 47 (0, 0)) := by
  unfold bookWorld
  refine ⟨?_, by simp, ?_, ?_, ?_⟩
  · exact (((((Below.refl _ _).alloc (Nat.le_refl _) _).alloc (by simp) _).alloc (by simp; omega) _).alloc (by simp; omega) _).alloc (by simp; omega) _
  · have := World.cell?_alloc_new (w := ((((w2.alloc (.map #[] 0)).alloc (.cells #[.pointer none, .map none, x2, x3, .int .i64 1, x5, x6, .int .i64 (-1), .map (some w2.heap.size), .int .i64 0, .int .i64 0] 47)).alloc
    (.map #[⟨.string key, .pointer (some ⟨w2.heap.size + 1, 0, none⟩), 0⟩] 1)).alloc (.map #[] 0))) #[.map (some (w2.heap.size + 1 + 1)), .map (some (w2.heap.size + 1 + 1 + 1))] 31 0
    simpa using this
  · rw [Below.heap_alloc _ _ _ (by simp), Below.heap_alloc _ _ _ (by simp)]
    have := heap_alloc_new ((w2.alloc (.map #[] 0)).alloc (.cells #[.pointer none, .map none, x2, x3, .int .i64 1, x5, x6, .int .i64 (-1), .map (some w2.heap.size), .int .i64 0, .int .i64 0] 47)) (.map #[⟨.string key, .pointer (some ⟨w2.heap.size + 1, 0, none⟩), 0⟩] 1)
    simpa using this
  · rw [Below.heap_alloc _ _ _ (by simp), Below.heap_alloc _ _ _ (by simp), Below.heap_alloc _ _ _ (by simp)]
    have := heap_alloc_new (w2.alloc (.map #[] 0)) (.cells #[.pointer none, .map none, x2, x3, .int .i64 1, x5, x6, .int .i64 (-1), .map (some w2.heap.size), .int .i64 0, .int .i64 0] 47)
    simpa using this

theorem vstate (sg : Int) (O : Nat → Ord) (n : Nat) : vfold sg ⟨0, false, true⟩ (flatTo (fun i => [O i]) n) = ⟨(vfold sg ⟨0, false, true⟩ (flatTo (fun i => [O i]) n)).best, decide (0 < n), okTo O n⟩ := by
  have h := vhold sg O n
  rw [← h.1, ← h.2]

theorem vrule_string (b1 : Int) (h1 o1 : Bool) (b2 : Int) (h2 o2 bad : Bool) : ∃ s, vrule b1 h1 o1 b2 h2 o2 bad = .string s := by
  unfold vrule
  split
  · exact ⟨_, rfl⟩
  · split
    · exact ⟨_, rfl⟩
    · exact ruleOf_string bad

theorem toList_inj {a b : ByteArray} (h : a.toList = b.toList) : a = b := by
  rw [ByteArray.toList_eq, ByteArray.toList_eq] at h
  exact ByteArray.ext (Array.toList_inj.1 h)

theorem toList_ne {a b : ByteArray} (h : ¬ a = b) : (a.toList == b.toList) = false := by
  rw [Bool.eq_false_iff]
  intro h1
  exact h (toList_inj (by simpa using h1))

def quantB : ByteArray := ⟨#[81, 85, 65, 78, 84, 73, 84, 89, 95, 82, 85, 76, 69]⟩

theorem vrule_crossed {b1 b2 : Int} (o1 o2 bad : Bool) (h : b2 ≤ b1) : vrule b1 true o1 b2 true o2 bad = crossedV := by simp [vrule, h]
theorem vrule_apart {b1 b2 : Int} {h1 h2 : Bool} (o1 o2 bad : Bool) (h : (h1 && h2 && decide (b2 ≤ b1)) = false) : vrule b1 h1 o1 b2 h2 o2 bad = if !o1 || !o2 then ruleOf true else ruleOf bad := by simp only [vrule, h]; rfl

set_option maxRecDepth 100000 in
set_option maxHeartbeats 4000000 in
theorem lawB5 (key sym : ByteArray) (a1 a2 a3 : Option Addr) (n1 c1 n2 c2 n3 c3 : Nat) (O1 O2 : Nat → Ord) (R : Nat → Rep) (w : World) (h1 : OrdsAt w a1 n1 O1) (h2 : OrdsAt w a2 n2 O2) (h3 : RepsAt w a3 n3 R)
    (hn1 : n1 ≤ 1024) (hn2 : n2 ≤ 1024) (hn3 : n3 ≤ 1024) :
    Calls Yba.prog 5 #[.string key, .string sym, .slice a1 n1 c1, .slice a2 n2 c2, .slice a3 n3 c3] w fun e w' => e = .returned (.bool true) ∧ Below w.heap.size w w' := by
  have hmm := @run_makeMap Yba.prog
  have hup := @upd_first Yba.prog 27 9 39 Yba.underlying27 Yba.underlying9
  go_enter Yba.func5, Yba.ntmps5
  go_wp2_with fail
  refine (ladder18 a1 n1 c1 1 O1 w h1 hn1).mono ?_
  rintro e w1 ⟨al1, cl1, rfl, hb1, hl1⟩
  go_wp2_with fail
  refine (ladder18 a2 n2 c2 (-1) O2 w1 (h2.below hb1) hn2).mono ?_
  rintro e w2 ⟨al2, cl2, rfl, hb2, hl2⟩
  go_wp2_with fail
  show Calls Yba.prog 16 _ (bookWorld w2 key (.slice al1 n1 cl1) (.map (some (w.heap.size + 1))) (.slice al2 n2 cl2) (.map (some (w1.heap.size + 1)))) _
  obtain ⟨f1, f2, f3, f4, f5⟩ := bookWorld_facts w2 key (.slice al1 n1 cl1) (.map (some (w.heap.size + 1))) (.slice al2 n2 cl2) (.map (some (w1.heap.size + 1)))
  generalize bookWorld w2 key (.slice al1 n1 cl1) (.map (some (w.heap.size + 1))) (.slice al2 n2 cl2) (.map (some (w1.heap.size + 1))) = w3 at *
  have hb12 : Below w.heap.size w w2 := hb1.trans (hb2.mono hb1.size)
  have hb13 : Below w.heap.size w w3 := hb12.trans (f1.mono hb12.size)
  have F2 : w2.heap.size + 4 < w3.heap.size := by omega
  have F4 : Hid (w3.heap[w2.heap.size + 2]? = some (.map #[⟨.string key, .pointer (some ⟨w2.heap.size + 1, 0, none⟩), 0⟩] 1)) := f4
  have F5 : Hid (w3.heap[w2.heap.size + 1]? = some (.cells #[.pointer none, .map none, .slice al1 n1 cl1, .map (some (w.heap.size + 1)), .int .i64 1, .slice al2 n2 cl2, .map (some (w1.heap.size + 1)), .int .i64 (-1), .map (some w2.heap.size), .int .i64 0, .int .i64 0] 47 (0, 0))) := f5
  clear f2 f4 f5 hmm hup
  refine (events16 a3 n3 c3 R w3 (h3.below hb13) hn3).mono ?_
  rintro e w4 ⟨rfl, hb4, hsz4, xs, hown, hevs⟩
  have hb14 : Below w.heap.size w w4 := hb13.trans (hb4.mono hb13.size)
  have k3 : w4.cell? ⟨w2.heap.size + 4, 0, none⟩ = some (.map (some (w2.heap.size + 2))) := (hb4.cell (p := ⟨w2.heap.size + 4, 0, none⟩) F2).trans f3
  have k4 : w4.heap[w2.heap.size + 2]? = some (.map #[⟨.string key, .pointer (some ⟨w2.heap.size + 1, 0, none⟩), 0⟩] 1) := (hb4.block _ (by omega)).trans F4.out
  have k5 : w4.heap[w2.heap.size + 1]? = some (.cells #[.pointer none, .map none, .slice al1 n1 cl1, .map (some (w.heap.size + 1)), .int .i64 1, .slice al2 n2 cl2, .map (some (w1.heap.size + 1)), .int .i64 (-1), .map (some w2.heap.size), .int .i64 0, .int .i64 0] 47 (0, 0)) := (hb4.block _ (by omega)).trans F5.out
  have K4 : Hid (w4.heap[w2.heap.size + 2]? = some (.map #[⟨.string key, .pointer (some ⟨w2.heap.size + 1, 0, none⟩), 0⟩] 1)) := k4
  have K5 := cellOf k5
  have K5' : Hid (∀ j, w4.cell? ⟨w2.heap.size + 1, j, none⟩ = (#[.pointer none, .map none, .slice al1 n1 cl1, .map (some (w.heap.size + 1)), .int .i64 1, .slice al2 n2 cl2, .map (some (w1.heap.size + 1)), .int .i64 (-1), .map (some w2.heap.size), .int .i64 0, .int .i64 0] : Array Value)[j]?) := K5
  clear k4 k5 K5 f3 F4 F5
  obtain ⟨s0, hs0⟩ := ruleOf_string (badTo R n3)
  have HS : Hid (ruleOf (badTo R n3) = .string s0) := hs0
  clear hs0
  by_cases hks : key = sym
  · subst hks
    have hf : Instr.findNow .string (.string key) (#[(⟨.string key, .pointer (some ⟨w2.heap.size + 1, 0, none⟩), 0⟩ : MapEntry)]).toList 0 = some (some (0, .pointer (some ⟨w2.heap.size + 1, 0, none⟩))) := by
      have : (key == key) = true := (MapKept.bytes_beq _ _).2 rfl
      simp [Instr.findNow, Instr.sameNow, this]
    have hlw1 : LevelsAt w4 al1 n1 (fun i => [O1 i]) := ((hl1.below hb2).below f1).below hb4
    have hlw2 : LevelsAt w4 al2 n2 (fun i => [O2 i]) := (hl2.below f1).below hb4
    go_wp2_with fail
    refine (vbook15_book (w2.heap.size + 4) (w2.heap.size + 2) 1 w3.heap.size w3.heap.size n3 n3 (w2.heap.size + 1) 0 _ key R w4 k3 K4.out hf (EvsTo.at hown hevs) hn3 al1 al2 n1 cl1 n2 cl2 (fun i => [O1 i]) (fun i => [O2 i]) (K5'.out 2) (K5'.out 4) (K5'.out 5) (K5'.out 7) hlw1 hlw2 hn1 hn2 _ _ _ _ _ _ (vstate 1 O1 n1) (vstate (-1) O2 n2)).mono ?_
    rintro e w5 ⟨rfl, m5, rfl⟩
    obtain ⟨gs, hgs⟩ := vrule_string (vfold 1 ⟨0, false, true⟩ (flatTo (fun i => [O1 i]) n1)).best (decide (0 < n1)) (okTo O1 n1) (vfold (-1) ⟨0, false, true⟩ (flatTo (fun i => [O2 i]) n2)).best (decide (0 < n2)) (okTo O2 n2) (badTo R n3)
    rw [hgs]
    have HG : Hid (vrule (vfold 1 ⟨0, false, true⟩ (flatTo (fun i => [O1 i]) n1)).best (decide (0 < n1)) (okTo O1 n1) (vfold (-1) ⟨0, false, true⟩ (flatTo (fun i => [O2 i]) n2)).best (decide (0 < n2)) (okTo O2 n2) (badTo R n3) = .string gs) := hgs
    have hbW : Below w.heap.size w (w4.drewN m5) := hb14.trans ⟨rfl, rfl, rfl, Nat.le_refl _, fun _ _ => rfl⟩
    clear hgs hlw1 hlw2 hf K4 K5' k3 hown hevs hsz4 hl1 hl2 hb1 hb2 f1 hb4 hb12 hb13 F2
    generalize w4.drewN m5 = w5 at *
    have hkk : (key.toList == key.toList) = true := by simp
    by_cases hb : 0 < n1 ∧ 0 < n2
    · obtain ⟨hp1, hp2⟩ := hb
      obtain ⟨b1, o1, ha1, hlt1, hc1⟩ := (h1.below hbW).1 hp1
      obtain ⟨b2, o2, ha2, hlt2, hc2⟩ := (h2.below hbW).1 hp2
      subst ha1
      subst ha2
      have z1 := (hc1 0 hp1).1
      simp only [Nat.zero_mul, Nat.add_zero] at z1
      have z1r := h1.2 0 hp1
      have hp1' : (0 : Int) < (n1 : Int) := by omega
      have hp2' : (0 : Int) < (n2 : Int) := by omega
      clear hc1 hc2 hlt1 hlt2
      go_wp2
      go_loopw [14, 70] (fun v i wr => ∃ k : Nat, k ≤ n1 ∧ i = .int .i64 k ∧ v = .int .i64 (maxTo O1 k) ∧ Below w.heap.size w wr) (fun _ i _ => n1 - (intOf i).toNat)
      case atStart => exact ⟨0, Nat.zero_le _, rfl, rfl, hbW⟩
      case round =>
        obtain ⟨k, hk, rfl, rfl, hbel⟩ := hrel
        by_cases hlt : k < n1
        · obtain ⟨_, _, ha, _, hc⟩ := (h1.below hbel).1 hp1
          simp only [Option.some.injEq, Addr.mk.injEq, and_true] at ha
          obtain ⟨rfl, rfl⟩ := ha
          obtain ⟨g0, g1, g2, g3, g4⟩ := hc k hlt
          have gr := h1.2 k hlt
          clear hc
          have HM : Hid (maxTo O1 (k + 1) = if maxTo O1 k < (O1 k).price then (O1 k).price else maxTo O1 k) := rfl
          by_cases hgt : maxTo O1 k < (O1 k).price
          · go_wp2
            go_roundw
            case rel => exact ⟨k + 1, by omega, by go_num, by rw [HM.out, if_pos hgt], hbel.alloc hbel.size _⟩
            case measure => simp [intOf]; omega
          · go_wp2
            go_roundw
            case rel => exact ⟨k + 1, by omega, by go_num, by rw [HM.out, if_neg hgt], hbel.alloc hbel.size _⟩
            case measure => simp [intOf]; omega
        · obtain rfl : k = n1 := by omega
          clear hbW z1
          have z2 : wr.cell? ⟨b2, o2, none⟩ = some (.int .i32 (O2 0).price) := by
            obtain ⟨_, _, ha, _, hc⟩ := (h2.below hbel).1 hp2
            simp only [Option.some.injEq, Addr.mk.injEq, and_true] at ha
            obtain ⟨rfl, rfl⟩ := ha
            simpa using (hc 0 hp2).1
          have z2r := h2.2 0 hp2
          go_wp2
          go_loopw [17, 90] (fun v i wr => ∃ k : Nat, k ≤ n2 ∧ i = .int .i64 k ∧ v = .int .i64 (minTo O2 k) ∧ Below w.heap.size w wr) (fun _ i _ => n2 - (intOf i).toNat)
          case atStart => exact ⟨0, Nat.zero_le _, rfl, rfl, hbel⟩
          case round =>
            clear hbel z2
            obtain ⟨k2, hk2, rfl, rfl, hbW⟩ := hrel
            by_cases hlt2 : k2 < n2
            · obtain ⟨_, _, ha, _, hc⟩ := (h2.below hbW).1 hp2
              simp only [Option.some.injEq, Addr.mk.injEq, and_true] at ha
              obtain ⟨rfl, rfl⟩ := ha
              obtain ⟨g0, g1, g2, g3, g4⟩ := hc k2 hlt2
              have gr := h2.2 k2 hlt2
              clear hc
              have HM : Hid (minTo O2 (k2 + 1) = if (O2 k2).price < minTo O2 k2 then (O2 k2).price else minTo O2 k2) := rfl
              by_cases hgt : (O2 k2).price < minTo O2 k2
              · go_wp2
                go_roundw
                case rel => exact ⟨k2 + 1, by omega, by go_num, by rw [HM.out, if_pos hgt], hbW.alloc hbW.size _⟩
                case measure => simp [intOf]; omega
              · go_wp2
                go_roundw
                case rel => exact ⟨k2 + 1, by omega, by go_num, by rw [HM.out, if_neg hgt], hbW.alloc hbW.size _⟩
                case measure => simp [intOf]; omega
            · obtain rfl : k2 = n2 := by omega
              have M1 : (vfold 1 ⟨0, false, true⟩ (flatTo (fun i => [O1 i]) k)).best = maxTo O1 k := by
                obtain ⟨j, rfl⟩ : ∃ j, k = j + 1 := ⟨k - 1, by omega⟩
                exact vmax h1.2 j (Nat.le_refl _)
              have M2 : (vfold (-1) ⟨0, false, true⟩ (flatTo (fun i => [O2 i]) k2)).best = minTo O2 k2 := by
                obtain ⟨j, rfl⟩ : ∃ j, k2 = j + 1 := ⟨k2 - 1, by omega⟩
                exact vmin h2.2 j (Nat.le_refl _)
              by_cases hcr : minTo O2 k2 ≤ maxTo O1 k
              · have HV : Hid (gs = ⟨#[67, 82, 79, 83, 83, 69, 68, 95, 66, 79, 79, 75]⟩) := by
                  have := HG.out
                  show _ = _
                  rw [M1, M2, decide_eq_true hp1, decide_eq_true hp2, vrule_crossed _ _ _ hcr] at this
                  simpa [crossedV] using this.symm
                clear M1 M2
                have e := HV.out
                subst e
                go_wp2
                go_ret
                exact ⟨by simp, hbW⟩
              · have HA : Hid (vrule (vfold 1 ⟨0, false, true⟩ (flatTo (fun i => [O1 i]) k)).best (decide (0 < k)) (okTo O1 k) (vfold (-1) ⟨0, false, true⟩ (flatTo (fun i => [O2 i]) k2)).best (decide (0 < k2)) (okTo O2 k2) (badTo R n3) = if !okTo O1 k || !okTo O2 k2 then ruleOf true else ruleOf (badTo R n3)) := by
                  show _ = _
                  refine vrule_apart _ _ _ ?_
                  rw [M1, M2]
                  simp [hcr]
                clear M1 M2
                by_cases ok1 : okTo O1 k = true
                · by_cases ok2 : okTo O2 k2 = true
                  · have HV : Hid (gs = s0) := by
                      have := HG.out
                      have e0 := HS.out
                      show _ = _
                      rw [HA.out, ok1, ok2, if_neg (by simp), e0] at this
                      simpa using this.symm
                    have E1 : Hid (okTo O1 k = true) := ok1
                    have E2 : Hid (okTo O2 k2 = true) := ok2
                    clear ok1 ok2
                    go_wp2_with fail
                    refine (holds19 (some ⟨b1, o1, none⟩) k c1 O1 _ (h1.below hbW) hn1).mono ?_
                    rintro e w6 ⟨rfl, hb6⟩
                    rw [E1.out]
                    have hbX : Below w.heap.size w w6 := hbW.trans (hb6.mono hbW.size)
                    go_wp2_with fail
                    refine (holds19 (some ⟨b2, o2, none⟩) k2 c2 O2 _ (h2.below hbX) hn2).mono ?_
                    rintro e w7 ⟨rfl, hb7⟩
                    rw [E2.out]
                    have hbY : Below w.heap.size w w7 := hbX.trans (hb7.mono hbX.size)
                    go_wp2_with fail
                    refine (want17 a3 n3 c3 R _ (h3.below hbY) hn3).mono ?_
                    rintro e w8 ⟨rfl, hb8⟩
                    rw [HS.out]
                    have e := HV.out
                    subst e
                    go_wp2
                    go_ret
                    exact ⟨by simp, hbY.trans (hb8.mono hbY.size)⟩
                  · have HV : Hid (gs = quantB) := by
                      have := HG.out
                      show _ = _
                      rw [HA.out, if_pos (by simp [ok2])] at this
                      simpa [ruleOf, quantB] using this.symm
                    have E1 : Hid (okTo O1 k = true) := ok1
                    have E2 : Hid (okTo O2 k2 = false) := by show _ = _; simpa using ok2
                    clear ok1 ok2
                    go_wp2_with fail
                    refine (holds19 (some ⟨b1, o1, none⟩) k c1 O1 _ (h1.below hbW) hn1).mono ?_
                    rintro e w6 ⟨rfl, hb6⟩
                    rw [E1.out]
                    have hbX : Below w.heap.size w w6 := hbW.trans (hb6.mono hbW.size)
                    go_wp2_with fail
                    refine (holds19 (some ⟨b2, o2, none⟩) k2 c2 O2 _ (h2.below hbX) hn2).mono ?_
                    rintro e w7 ⟨rfl, hb7⟩
                    rw [E2.out]
                    have hbY : Below w.heap.size w w7 := hbX.trans (hb7.mono hbX.size)
                    have e := HV.out
                    subst e
                    go_wp2
                    go_ret
                    exact ⟨by simp [quantB], hbY⟩
                · have HV : Hid (gs = quantB) := by
                    have := HG.out
                    show _ = _
                    rw [HA.out, if_pos (by simp [ok1])] at this
                    simpa [ruleOf, quantB] using this.symm
                  have E1 : Hid (okTo O1 k = false) := by show _ = _; simpa using ok1
                  clear ok1
                  go_wp2_with fail
                  refine (holds19 (some ⟨b1, o1, none⟩) k c1 O1 _ (h1.below hbW) hn1).mono ?_
                  rintro e w6 ⟨rfl, hb6⟩
                  rw [E1.out]
                  have hbX : Below w.heap.size w w6 := hbW.trans (hb6.mono hbW.size)
                  have e := HV.out
                  subst e
                  go_wp2
                  go_ret
                  exact ⟨by simp [quantB], hbX⟩
    · skip
      have HA : Hid (vrule (vfold 1 ⟨0, false, true⟩ (flatTo (fun i => [O1 i]) n1)).best (decide (0 < n1)) (okTo O1 n1) (vfold (-1) ⟨0, false, true⟩ (flatTo (fun i => [O2 i]) n2)).best (decide (0 < n2)) (okTo O2 n2) (badTo R n3) = if !okTo O1 n1 || !okTo O2 n2 then ruleOf true else ruleOf (badTo R n3)) :=
        vrule_apart _ _ _ (by have : ¬ (0 < n1 ∧ 0 < n2) := hb; by_cases q1 : 0 < n1 <;> by_cases q2 : 0 < n2 <;> simp_all)
      by_cases hp1 : 0 < n1
      · have hp2 : ¬ 0 < n2 := fun h => hb ⟨hp1, h⟩
        have hp1' : (0 : Int) < (n1 : Int) := by omega
        have hp2' : ¬ (0 : Int) < (n2 : Int) := by omega
        clear hb
        by_cases ok1 : okTo O1 n1 = true
        · by_cases ok2 : okTo O2 n2 = true
          · have HV : Hid (gs = s0) := by
              have := HG.out
              have e0 := HS.out
              show _ = _
              rw [HA.out, ok1, ok2, if_neg (by simp), e0] at this
              simpa using this.symm
            have E1 : Hid (okTo O1 n1 = true) := ok1
            have E2 : Hid (okTo O2 n2 = true) := ok2
            clear ok1 ok2
            go_wp2_with fail
            refine (holds19 a1 n1 c1 O1 _ (h1.below hbW) hn1).mono ?_
            rintro e w6 ⟨rfl, hb6⟩
            rw [E1.out]
            have hbX : Below w.heap.size w w6 := hbW.trans (hb6.mono hbW.size)
            go_wp2_with fail
            refine (holds19 a2 n2 c2 O2 _ (h2.below hbX) hn2).mono ?_
            rintro e w7 ⟨rfl, hb7⟩
            rw [E2.out]
            have hbY : Below w.heap.size w w7 := hbX.trans (hb7.mono hbX.size)
            go_wp2_with fail
            refine (want17 a3 n3 c3 R _ (h3.below hbY) hn3).mono ?_
            rintro e w8 ⟨rfl, hb8⟩
            rw [HS.out]
            have e := HV.out
            subst e
            go_wp2
            go_ret
            exact ⟨by simp, hbY.trans (hb8.mono hbY.size)⟩
          · have HV : Hid (gs = quantB) := by
              have := HG.out
              show _ = _
              rw [HA.out, if_pos (by simp [ok2])] at this
              simpa [ruleOf, quantB] using this.symm
            have E1 : Hid (okTo O1 n1 = true) := ok1
            have E2 : Hid (okTo O2 n2 = false) := by show _ = _; simpa using ok2
            clear ok1 ok2
            go_wp2_with fail
            refine (holds19 a1 n1 c1 O1 _ (h1.below hbW) hn1).mono ?_
            rintro e w6 ⟨rfl, hb6⟩
            rw [E1.out]
            have hbX : Below w.heap.size w w6 := hbW.trans (hb6.mono hbW.size)
            go_wp2_with fail
            refine (holds19 a2 n2 c2 O2 _ (h2.below hbX) hn2).mono ?_
            rintro e w7 ⟨rfl, hb7⟩
            rw [E2.out]
            have hbY : Below w.heap.size w w7 := hbX.trans (hb7.mono hbX.size)
            have e := HV.out
            subst e
            go_wp2
            go_ret
            exact ⟨by simp [quantB], hbY⟩
        · have HV : Hid (gs = quantB) := by
            have := HG.out
            show _ = _
            rw [HA.out, if_pos (by simp [ok1])] at this
            simpa [ruleOf, quantB] using this.symm
          have E1 : Hid (okTo O1 n1 = false) := by show _ = _; simpa using ok1
          clear ok1
          go_wp2_with fail
          refine (holds19 a1 n1 c1 O1 _ (h1.below hbW) hn1).mono ?_
          rintro e w6 ⟨rfl, hb6⟩
          rw [E1.out]
          have hbX : Below w.heap.size w w6 := hbW.trans (hb6.mono hbW.size)
          have e := HV.out
          subst e
          go_wp2
          go_ret
          exact ⟨by simp [quantB], hbX⟩
      · have hp1' : ¬ (0 : Int) < (n1 : Int) := by omega
        have hp1d : decide ((0 : Int) < (n1 : Int)) = false := by simpa using hp1
        clear hb
        by_cases ok1 : okTo O1 n1 = true
        · by_cases ok2 : okTo O2 n2 = true
          · have HV : Hid (gs = s0) := by
              have := HG.out
              have e0 := HS.out
              show _ = _
              rw [HA.out, ok1, ok2, if_neg (by simp), e0] at this
              simpa using this.symm
            have E1 : Hid (okTo O1 n1 = true) := ok1
            have E2 : Hid (okTo O2 n2 = true) := ok2
            clear ok1 ok2
            go_wp2_with fail
            refine (holds19 a1 n1 c1 O1 _ (h1.below hbW) hn1).mono ?_
            rintro e w6 ⟨rfl, hb6⟩
            rw [E1.out]
            have hbX : Below w.heap.size w w6 := hbW.trans (hb6.mono hbW.size)
            go_wp2_with fail
            refine (holds19 a2 n2 c2 O2 _ (h2.below hbX) hn2).mono ?_
            rintro e w7 ⟨rfl, hb7⟩
            rw [E2.out]
            have hbY : Below w.heap.size w w7 := hbX.trans (hb7.mono hbX.size)
            go_wp2_with fail
            refine (want17 a3 n3 c3 R _ (h3.below hbY) hn3).mono ?_
            rintro e w8 ⟨rfl, hb8⟩
            rw [HS.out]
            have e := HV.out
            subst e
            go_wp2
            go_ret
            exact ⟨by simp, hbY.trans (hb8.mono hbY.size)⟩
          · have HV : Hid (gs = quantB) := by
              have := HG.out
              show _ = _
              rw [HA.out, if_pos (by simp [ok2])] at this
              simpa [ruleOf, quantB] using this.symm
            have E1 : Hid (okTo O1 n1 = true) := ok1
            have E2 : Hid (okTo O2 n2 = false) := by show _ = _; simpa using ok2
            clear ok1 ok2
            go_wp2_with fail
            refine (holds19 a1 n1 c1 O1 _ (h1.below hbW) hn1).mono ?_
            rintro e w6 ⟨rfl, hb6⟩
            rw [E1.out]
            have hbX : Below w.heap.size w w6 := hbW.trans (hb6.mono hbW.size)
            go_wp2_with fail
            refine (holds19 a2 n2 c2 O2 _ (h2.below hbX) hn2).mono ?_
            rintro e w7 ⟨rfl, hb7⟩
            rw [E2.out]
            have hbY : Below w.heap.size w w7 := hbX.trans (hb7.mono hbX.size)
            have e := HV.out
            subst e
            go_wp2
            go_ret
            exact ⟨by simp [quantB], hbY⟩
        · have HV : Hid (gs = quantB) := by
            have := HG.out
            show _ = _
            rw [HA.out, if_pos (by simp [ok1])] at this
            simpa [ruleOf, quantB] using this.symm
          have E1 : Hid (okTo O1 n1 = false) := by show _ = _; simpa using ok1
          clear ok1
          go_wp2_with fail
          refine (holds19 a1 n1 c1 O1 _ (h1.below hbW) hn1).mono ?_
          rintro e w6 ⟨rfl, hb6⟩
          rw [E1.out]
          have hbX : Below w.heap.size w w6 := hbW.trans (hb6.mono hbW.size)
          have e := HV.out
          subst e
          go_wp2
          go_ret
          exact ⟨by simp [quantB], hbX⟩
  · have hf : Instr.findNow .string (.string sym) (#[(⟨.string key, .pointer (some ⟨w2.heap.size + 1, 0, none⟩), 0⟩ : MapEntry)]).toList 0 = some none := by
      have : (sym == key) = false := by
        rw [Bool.eq_false_iff]
        intro h
        exact hks ((MapKept.bytes_beq _ _).1 h).symm
      simp [Instr.findNow, Instr.sameNow, this]
    go_wp2_with fail
    refine (vbook15_none (w2.heap.size + 4) (w2.heap.size + 2) 1 w3.heap.size w3.heap.size n3 n3 _ sym R w4 k3 K4.out hf (EvsTo.at hown hevs) hn3).mono ?_
    rintro e w5 ⟨rfl, m5, rfl⟩
    rw [HS.out]
    have hbW : Below w.heap.size w (w4.drewN m5) := hb14.trans ⟨rfl, rfl, rfl, Nat.le_refl _, fun _ _ => rfl⟩
    clear hf K4 K5' k3 hown hevs hsz4 hl1 hl2
    have hkn := toList_ne hks
    go_wp2_with fail
    refine (want17 a3 n3 c3 R _ (h3.below hbW) hn3).mono ?_
    rintro e w8 ⟨rfl, hb8⟩
    rw [HS.out]
    go_wp2
    go_ret
    exact ⟨by simp, hbW.trans (hb8.mono hbW.size)⟩

end Go.Proofs.Ybulkcinc
