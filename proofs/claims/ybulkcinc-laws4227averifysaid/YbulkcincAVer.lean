/-
  '(NewOrder).verify' (number 9).
-/
import Derived.Test.YbulkcincALadder
import Derived.Test.YbulkcincVbook2
namespace Go.Proofs.Ybulkcinc
open Go.RowKit

/-- One drawn event of this law. -/
structure AEv where
  kind : Int
  maker : Int
  taker : Int
  status : Int
  qty : Int
  ex : Int
  pr : Int
  re : Int

/-- The same as the other law's event: a report or none. -/
def toRep (E : Nat → AEv) (i : Nat) : Rep := ⟨if (E i).kind % 4 = 0 then 0 else 1, (E i).status, (E i).qty, (E i).ex, (E i).pr, (E i).re⟩

/-- The value v is an event drawn from e: what it leads to lies in a block behind B. -/
def AEvAt (B : Nat) (w : World) (v : Value) (e : AEv) : Prop :=
  (e.kind % 4 = 0 ∧ ∃ b, v = .iface 51 (.pointer (some ⟨b, 0, none⟩)) ∧ B < b ∧ w.cell? ⟨b, 8, none⟩ = some (.int .u8 (e.status % 8)) ∧
      w.cell? ⟨b, 7, none⟩ = some (.int .i64 e.qty) ∧ w.cell? ⟨b, 9, none⟩ = some (.int .i64 e.ex) ∧ w.cell? ⟨b, 10, none⟩ = some (.int .i64 e.pr) ∧ w.cell? ⟨b, 11, none⟩ = some (.int .i64 e.re)) ∨
  (e.kind % 4 = 1 ∧ ∃ b, v = .iface 58 (.pointer (some ⟨b, 0, none⟩)) ∧ B < b ∧ w.cell? ⟨b, 6, none⟩ = some (.string (acctB e.maker)) ∧ w.cell? ⟨b, 7, none⟩ = some (.string (acctB e.taker))) ∨
  (¬ e.kind % 4 = 0 ∧ ¬ e.kind % 4 = 1 ∧ ∃ t x, v = .iface t x ∧ ¬ t = 51 ∧ ¬ t = 58)

def AEvsAt (B : Nat) (w : World) (g : Nat) (n : Nat) (E : Nat → AEv) : Prop := ∀ i, i < n → ∃ v, w.cell? ⟨g, i, none⟩ = some v ∧ AEvAt B w v (E i)

theorem AEvAt.rep {B : Nat} {w : World} {v : Value} {E : Nat → AEv} {i : Nat} (h : AEvAt B w v (E i)) : EvAt B w v (toRep E i) := by
  rcases h with ⟨hk, r⟩ | ⟨hk, b, hv, _⟩ | ⟨h0, _, t, x, hv, ht, _⟩
  · exact .inl ⟨by simp [toRep, hk], r⟩
  · exact .inr ⟨by simp [toRep, hk], 58, _, hv, by decide⟩
  · exact .inr ⟨by simp [toRep, h0], t, x, hv, ht⟩

theorem AEvsAt.rep {B : Nat} {w : World} {g n : Nat} {E : Nat → AEv} (h : AEvsAt B w g n E) : EvsAt B w g n (toRep E) := fun i hi => by
  obtain ⟨v, hv, he⟩ := h i hi
  exact ⟨v, hv, he.rep⟩

theorem AEvAt.below {B : Nat} {w w' : World} {v : Value} {e : AEv} (h : AEvAt B w v e) (hb : Below w.heap.size w w') : AEvAt B w' v e := by
  rcases h with ⟨hk, b, hv, hB, c8, c7, c9, c10, c11⟩ | ⟨hk, b, hv, hB, c6, c7⟩ | h
  · exact .inl ⟨hk, b, hv, hB, cell_below hb _ _ c8, cell_below hb _ _ c7, cell_below hb _ _ c9, cell_below hb _ _ c10, cell_below hb _ _ c11⟩
  · exact .inr (.inl ⟨hk, b, hv, hB, cell_below hb _ _ c6, cell_below hb _ _ c7⟩)
  · exact .inr (.inr h)

theorem AEvsAt.below {B : Nat} {w w' : World} {g n : Nat} {E : Nat → AEv} (h : AEvsAt B w g n E) (hb : Below w.heap.size w w') : AEvsAt B w' g n E := fun i hi => by
  obtain ⟨v, hv, he⟩ := h i hi
  exact ⟨v, cell_below hb _ _ hv, he.below hb⟩

/-- A trade between orders of one owner among the first n. -/
def selfTo (G : ByteArray → ByteArray) (E : Nat → AEv) : Nat → Bool
  | 0 => false
  | n + 1 => selfTo G E n || ((E n).kind % 4 == 1 && sameB G (acctB (E n).maker) (acctB (E n).taker))

theorem selfTo_mono {G : ByteArray → ByteArray} {E : Nat → AEv} {k n : Nat} (h : k ≤ n) (hb : selfTo G E k = true) : selfTo G E n = true := by
  induction n with
  | zero => have : k = 0 := by omega
            subst this; exact hb
  | succ n ih =>
    rcases Nat.lt_or_ge n k with hlt | hge
    · have : k = n + 1 := by omega
      subst this; exact hb
    · simp [selfTo, ih hge]

/-- The order as a value. -/
def newOrderV (sym : ByteArray) (named : Int) : Array Value := #[.string sym, .string ⟨#[]⟩, .string ⟨#[]⟩, .int .u8 0, .int .u8 0, .int .u8 0, .string ⟨#[]⟩, .string ⟨#[]⟩, .int .u8 named]

theorem belowN {B : Nat} {a w : World} (h : Below B a w) (m : Nat) : Below B a (w.drewN m) := h.trans ⟨rfl, rfl, rfl, Nat.le_refl _, fun _ _ => rfl⟩

set_option maxRecDepth 100000 in
set_option maxHeartbeats 2000000 in
/-- No book under the order's symbol. -/
theorem verify9_none (sym : ByteArray) (named : Int) (eb mb cl B g n c : Nat) (es : Array MapEntry) (E : Nat → AEv) (w : World) (he : w.cell? ⟨eb, 0, none⟩ = some (.map (some mb))) (hm : w.heap[mb]? = some (.map es cl))
    (hf : Instr.findNow .string (.string sym) es.toList 0 = some none) (hev : AEvsAt B w g n E) (hn : n ≤ 1024) :
    Calls Yba.prog 9 #[.agg (newOrderV sym named), .pointer (some ⟨eb, 0, none⟩), .slice (some ⟨g, 0, none⟩) n c] w fun e w' => e = .returned (ruleOf (badTo (toRep E) n)) ∧ Below w.heap.size w w' := by
  obtain ⟨s0, hs0⟩ : ∃ s, ruleOf (badTo (toRep E) n) = .string s := by cases badTo (toRep E) n <;> exact ⟨_, rfl⟩
  have HS : Hid (ruleOf (badTo (toRep E) n) = .string s0) := hs0
  clear hs0
  have hb0 : Below w.heap.size w (w.alloc (.cells (newOrderV sym named) 69)) := (Below.refl _ _).alloc (Nat.le_refl _) _
  have he0 := cell_below hb0 _ _ he
  have hm0 : (w.alloc (.cells (newOrderV sym named) 69)).heap[mb]? = some (.map es cl) := (hb0.block _ (lt_of_block hm)).trans hm
  have hev0 := hev.below hb0
  have HV := hb0
  have HM : Hid (∀ m, (Instr.lookup 27 (.map (some mb)) (.string sym) false).run Yba.prog ((w.alloc (.cells (newOrderV sym named) 69)).drewN m) = .ok (.pointer none) ((w.alloc (.cells (newOrderV sym named) 69)).drewN m)) :=
    fun m => look_str (w := (w.alloc (.cells (newOrderV sym named) 69)).drewN m) Yba.underlying27 Yba.underlying9 (zero39 _) hm0 hf
  have HF : Hid (Calls Yba.prog 15 #[.pointer (some ⟨eb, 0, none⟩), .string sym, .slice (some ⟨g, 0, none⟩) n c] (w.alloc (.cells (newOrderV sym named) 69)) fun e w' => e = .returned (ruleOf (badTo (toRep E) n)) ∧ ∃ m, w' = (w.alloc (.cells (newOrderV sym named) 69)).drewN m) :=
    vbook15_none eb mb cl B g n c es sym (toRep E) _ he0 hm0 hf hev0.rep hn
  unfold newOrderV at *
  clear hm0 hm hf hev hev0 he HV
  go_enter Yba.func9, Yba.ntmps9
  go_wp2_with fail
  refine HF.out.mono ?_
  rintro e w1 ⟨rfl, m1, rfl⟩
  rw [HS.out]
  have hl := HM.out
  clear HM HF
  go_wp2_with fail
  go_quiet (fail)
  cases e0 : s0.toList.isEmpty with
  | true =>
    go_wp2_with fail
    go_quiet (fail)
    go_wp2
    go_ret
    exact ⟨by rw [HS.out]; rfl, belowN (belowN (belowN hb0 _) _) _⟩
  | false =>
    go_wp2_with fail
    go_quiet (fail)
    go_wp2
    go_ret
    exact ⟨by rw [HS.out]; rfl, belowN (belowN (belowN hb0 _) _) _⟩

/-- A callee that draws nothing, met behind other draws. -/
theorem quiet_off {P : Program} {f : FuncId} {args : Array Value} {w : World} {k n : Nat} {v : Value}
    (h : Calls P f args (w.drewN (k + n)) fun e w' => e = .returned v ∧ w' = w.drewN (k + n)) : Calls P f args (w.drewN (k + n)) fun e w'' => e = .returned v ∧ ∃ m, w'' = w.drewN (k + m) :=
  h.mono fun _ _ ⟨he, hm⟩ => ⟨he, n, hm⟩

def selfB : ByteArray := ⟨#[83, 69, 76, 70, 95, 84, 82, 65, 68, 69]⟩

/-- What 'verify' answers where there is a book: the book's rule, else the self trade. -/
def verB (s0 : ByteArray) (mode : Int) (self : Bool) : ByteArray := if s0.toList.isEmpty = false then s0 else if mode = 1 then ⟨#[]⟩ else if self then selfB else ⟨#[]⟩

theorem assert58_hit (x : Value) (w : World) : (Instr.typeAssert (.iface 58 x) 99 58 true).run Yba.prog w = .ok (.tuple #[x, .bool true]) w := by
  simp [Instr.typeAssert, run_underlying Yba.underlying58]
theorem assert58_miss (t : TypeId) (x : Value) (ht : ¬ t = 58) (w : World) : (Instr.typeAssert (.iface t x) 99 58 true).run Yba.prog w = .ok (.tuple #[.pointer none, .bool false]) w := by
  simp [Instr.typeAssert, run_underlying Yba.underlying58, ht]

theorem isEmpty_eq {s : ByteArray} (h : s.toList.isEmpty = true) : s = ⟨#[]⟩ := by
  apply toList_inj
  rw [List.isEmpty_iff.1 h]
  simp

theorem GMap.below {w w' : World} {gb : Nat} {G : ByteArray → ByteArray} (h : GMap w gb G) (hb : Below w.heap.size w w') : GMap w' gb G := by
  obtain ⟨es, cl, hm, r⟩ := h
  exact ⟨es, cl, (hb.block _ (lt_of_block hm)).trans hm, r⟩

set_option maxRecDepth 100000 in
set_option maxHeartbeats 4000000 in
/-- A book under the order's symbol. -/
theorem verify9_book (sym : ByteArray) (named d : Int) (eb mb cl B g n c bb sb gb j : Nat) (es : Array MapEntry) (E : Nat → AEv) (G : ByteArray → ByteArray) (w : World) (he : w.cell? ⟨eb, 0, none⟩ = some (.map (some mb))) (hm : w.heap[mb]? = some (.map es cl))
    (he1 : w.cell? ⟨eb, 1, none⟩ = some (.map (some gb))) (hG : GMap w gb G) (hbb : w.cell? ⟨bb, 0, none⟩ = some (.pointer (some ⟨sb, 0, none⟩))) (hsb : w.cell? ⟨sb, 3, none⟩ = some (.int .u8 d))
    (hf : Instr.findNow .string (.string sym) es.toList 0 = some (some (j, .pointer (some ⟨bb, 0, none⟩)))) (hev : AEvsAt B w g n E) (hn : n ≤ 1024)
    (a1 a2 : Option Addr) (n1 c1 n2 c2 : Nat) (C1 C2 : Nat → List Ord) (b2 : w.cell? ⟨bb, 2, none⟩ = some (.slice a1 n1 c1)) (b4 : w.cell? ⟨bb, 2 + 2, none⟩ = some (.int .i64 1))
    (b5 : w.cell? ⟨bb, 5, none⟩ = some (.slice a2 n2 c2)) (b7 : w.cell? ⟨bb, 5 + 2, none⟩ = some (.int .i64 (-1))) (hl1 : LevelsAt w a1 n1 C1) (hl2 : LevelsAt w a2 n2 C2) (hn1 : n1 ≤ 1024) (hn2 : n2 ≤ 1024)
    (be1 be2 : Int) (hh1 ho1 hh2 ho2 : Bool) (hs1 : vfold 1 ⟨0, false, true⟩ (flatTo C1 n1) = ⟨be1, hh1, ho1⟩) (hs2 : vfold (-1) ⟨0, false, true⟩ (flatTo C2 n2) = ⟨be2, hh2, ho2⟩)
    (s0 : ByteArray) (hs0 : vrule be1 hh1 ho1 be2 hh2 ho2 (badTo (toRep E) n) = .string s0) :
    Calls Yba.prog 9 #[.agg (newOrderV sym named), .pointer (some ⟨eb, 0, none⟩), .slice (some ⟨g, 0, none⟩) n c] w fun e w' => e = .returned (.string (verB s0 (modeOf named d) (selfTo G E n))) ∧ Below w.heap.size w w' := by
  have hb0 : Below w.heap.size w (w.alloc (.cells (newOrderV sym named) 69)) := (Below.refl _ _).alloc (Nat.le_refl _) _
  have hm0 : (w.alloc (.cells (newOrderV sym named) 69)).heap[mb]? = some (.map es cl) := (hb0.block _ (lt_of_block hm)).trans hm
  have HM : Hid (∀ m, (Instr.lookup 27 (.map (some mb)) (.string sym) false).run Yba.prog ((w.alloc (.cells (newOrderV sym named) 69)).drewN m) = .ok (.pointer (some ⟨bb, 0, none⟩)) ((w.alloc (.cells (newOrderV sym named) 69)).drewN m)) :=
    fun m => look_str (w := (w.alloc (.cells (newOrderV sym named) 69)).drewN m) Yba.underlying27 Yba.underlying9 (zero39 _) hm0 hf
  have HF : Hid (Calls Yba.prog 15 #[.pointer (some ⟨eb, 0, none⟩), .string sym, .slice (some ⟨g, 0, none⟩) n c] (w.alloc (.cells (newOrderV sym named) 69)) fun e w' => e = .returned (.string s0) ∧ ∃ m, w' = (w.alloc (.cells (newOrderV sym named) 69)).drewN m) := by
    rw [← hs0]
    exact vbook15_book eb mb cl B g n c bb j es sym (toRep E) _ (cell_below hb0 _ _ he) hm0 hf (hev.below hb0).rep hn a1 a2 n1 c1 n2 c2 C1 C2 (cell_below hb0 _ _ b2) (cell_below hb0 _ _ b4) (cell_below hb0 _ _ b5) (cell_below hb0 _ _ b7) (levels_below hl1 hb0) (levels_below hl2 hb0) hn1 hn2 be1 be2 hh1 ho1 hh2 ho2 hs1 hs2
  have HG : Hid (GMap (w.alloc (.cells (newOrderV sym named) 69)) gb G) := hG.below hb0
  have HE : Hid (AEvsAt B (w.alloc (.cells (newOrderV sym named) 69)) g n E) := hev.below hb0
  have k0 := cell_below hb0 _ _ he
  have k1 := cell_below hb0 _ _ he1
  have kb := cell_below hb0 _ _ hbb
  have ks := cell_below hb0 _ _ hsb
  have kc0 : (w.alloc (.cells (newOrderV sym named) 69)).cell? ⟨w.heap.size, 0, none⟩ = some (.string sym) := by simp [go_sem, newOrderV]
  have kc8 : (w.alloc (.cells (newOrderV sym named) 69)).cell? ⟨w.heap.size, 8, none⟩ = some (.int .u8 named) := by simp [go_sem, newOrderV]
  clear hm hm0 hf hev he he1 hG hbb hsb b2 b4 b5 b7 hl1 hl2 hs1 hs2 hs0
  unfold newOrderV at *
  go_enter Yba.func9, Yba.ntmps9
  go_wp2_with fail
  generalize w.alloc (.cells #[.string sym, .string ⟨#[]⟩, .string ⟨#[]⟩, .int .u8 0, .int .u8 0, .int .u8 0, .string ⟨#[]⟩, .string ⟨#[]⟩, .int .u8 named] 69) = W at *
  refine HF.out.mono ?_
  rintro e w1 ⟨rfl, m1, rfl⟩
  have hl := HM.out
  clear HM HF
  go_wp2_with fail
  go_quiet (fail)
  cases e0 : s0.toList.isEmpty with
  | false =>
    have HV : Hid (verB s0 (modeOf named d) (selfTo G E n) = s0) := by show _ = _; simp only [verB, e0, if_true]
    go_wp2_with fail
    go_quiet (fail)
    go_wp2
    go_ret
    exact ⟨by rw [HV.out]; rfl, belowN (belowN (belowN hb0 _) _) _⟩
  | true =>
    have hz := isEmpty_eq e0
    clear hl
    by_cases hm1 : modeOf named d = 1
    · have HV : Hid (verB s0 (modeOf named d) (selfTo G E n) = s0) := by show _ = _; simp only [verB, e0, hm1, if_true]; rw [hz]; simp
      have hmb : (modeOf named d == 1) = true := by rw [hm1]; rfl
      clear hz hm1
      go_wp2_with fail
      go_quiet ((go_at_call 20; exact quiet_off (mode20 sb d named _ ks)))
      go_wp2
      go_ret
      exact ⟨by rw [HV.out]; rfl, belowN (belowN (belowN hb0 _) _) _⟩
    · have HV : Hid (verB s0 (modeOf named d) (selfTo G E n) = if selfTo G E n then selfB else ⟨#[]⟩) := by show _ = _; simp only [verB, e0, hm1, if_false]; simp
      have hmb : (modeOf named d == 1) = false := beq_eq_false_iff_ne.2 hm1
      clear hz hm1
      go_wp2_with fail
      go_quiet ((go_at_call 20; exact quiet_off (mode20 sb d named _ ks)))
      go_wp2
      go_loopg [44] n (fun gk i wr => ∃ k m : Nat, k + gk = n ∧ i = .int .i64 k ∧ Hid (selfTo G E k = false) ∧ wr = W.drewN m)
      case atStart => exact ⟨0, _, by omega, rfl, rfl, by first | rfl | (simp only [World.drewN_drewN]; done)⟩
      case round =>
        obtain ⟨k, m, hk, rfl, HB, rfl⟩ := hrel
        by_cases hlt : k < n
        · obtain ⟨v, hv, hev1⟩ := HE.out k hlt
          rcases hev1 with ⟨hz, b, rfl, _⟩ | ⟨hz, b, rfl, _, c6, c7⟩ | ⟨hz0, hz, t, x, rfl, _, ht⟩
          · have ha := assert58_miss 51 (.pointer (some ⟨b, 0, none⟩)) (by decide)
            have HK : Hid (selfTo G E (k + 1) = false) := by have := HB.out; show _ = _; simp [selfTo, hz, this]
            go_wp2_with fail
            go_quiet (fail)
            go_wp2
            go_roundg (gk - 1)
            case rel => exact ⟨k + 1, _, by omega, by go_num, HK, by first | rfl | (simp only [World.drewN_drewN]; done)⟩
            case measure => omega
          · have ha := assert58_hit (.pointer (some ⟨b, 0, none⟩))
            cases hsm : sameB G (acctB (E k).maker) (acctB (E k).taker) with
            | true =>
              have HK : Hid (selfTo G E n = true) := selfTo_mono (k := k + 1) (by omega) (by simp [selfTo, hz, hsm])
              go_wp2_with fail
              go_quiet ((go_at_call 21; exact quiet_off (same21 gb _ _ G _ HG.out)))
              go_wp2
              go_ret
              exact ⟨by rw [HV.out, HK.out]; rfl, belowN (belowN hb0 _) _⟩
            | false =>
              have HK : Hid (selfTo G E (k + 1) = false) := by have := HB.out; show _ = _; simp [selfTo, hsm, this]
              go_wp2_with fail
              go_quiet ((go_at_call 21; exact quiet_off (same21 gb _ _ G _ HG.out)))
              go_wp2
              go_roundg (gk - 1)
              case rel => exact ⟨k + 1, _, by omega, by go_num, HK, by first | rfl | (simp only [World.drewN_drewN]; done)⟩
              case measure => omega
          · have ha := assert58_miss t x ht
            have HK : Hid (selfTo G E (k + 1) = false) := by have := HB.out; show _ = _; simp [selfTo, hz, this]
            go_wp2_with fail
            go_quiet (fail)
            go_wp2
            go_roundg (gk - 1)
            case rel => exact ⟨k + 1, _, by omega, by go_num, HK, by first | rfl | (simp only [World.drewN_drewN]; done)⟩
            case measure => omega
        · go_wp2
          go_ret
          have : k = n := by omega
          subst this
          exact ⟨by rw [HV.out, HB.out]; rfl, belowN hb0 _⟩

end Go.Proofs.Ybulkcinc
