/-
  The small functions on the road of 'LawS4227AVerify': account and group names (7, 6), the clamp (10), the rule of an event (12), the rule of the orders (11), the law's own look for a group (13), the symbol's mode (20), one owner (21), a shared group (25).
-/
import Derived.Test.YbulkcincHolds
namespace Go.Proofs.Ybulkcinc
open Go.RowKit

def emptyB : ByteArray := ⟨#[]⟩
def acctB (i : Int) : ByteArray := if i % 4 = 1 then ⟨#[97]⟩ else if i % 4 = 2 then ⟨#[98]⟩ else if i % 4 = 3 then ⟨#[99]⟩ else ⟨#[]⟩
def gnameB (i : Int) : ByteArray := if i % 2 = 0 then ⟨#[103, 49]⟩ else ⟨#[103, 50]⟩

theorem ret_string {a b : ByteArray} (h : a = b) : Ending.returned (.string a) = .returned (.string b) := by rw [h]

set_option maxHeartbeats 400000 in
theorem acct7 (i : Int) (w : World) (h0 : 0 ≤ i) (h1 : i ≤ 255) : Calls Yba.prog 7 #[.int .u8 i] w fun e w' => e = .returned (.string (acctB i)) ∧ w' = w := by
  go_enter Yba.func7, Yba.ntmps7
  go_wp2
  all_goals go_ret
  all_goals refine ⟨ret_string ?_, rfl⟩
  all_goals (go_tidy; simp_all [acctB])

set_option maxHeartbeats 400000 in
theorem gname6 (i : Int) (w : World) (h0 : 0 ≤ i) (h1 : i ≤ 255) : Calls Yba.prog 6 #[.int .u8 i] w fun e w' => e = .returned (.string (gnameB i)) ∧ w' = w := by
  go_enter Yba.func6, Yba.ntmps6
  go_wp2
  all_goals go_ret
  all_goals refine ⟨ret_string ?_, rfl⟩
  all_goals (go_tidy; simp_all [gnameB])

set_option maxHeartbeats 400000 in
theorem clamp10 (p : Int) (w : World) : Calls Yba.prog 10 #[.int .i64 p] w fun e w' => e = .returned (.int .i64 (p.tmod 1000000)) ∧ w' = w := by
  go_enter Yba.func10, Yba.ntmps10
  go_wp2
  go_ret
  exact ⟨rfl, rfl⟩

set_option maxHeartbeats 400000 in
theorem keeps12 (k m t s q x p r : Int) (w : World) (hs : 0 ≤ s) (hs' : s ≤ 255) :
    Calls Yba.prog 12 #[.agg #[.int .u8 k, .int .u8 m, .int .u8 t, .int .u8 s, .int .i64 q, .int .i64 x, .int .i64 p, .int .i64 r]] w fun e w' =>
      e = .returned (.bool (keepsB (s % 8) q x p r)) ∧ Below w.heap.size w w' := by
  go_enter Yba.func12, Yba.ntmps12
  go_wp2
  all_goals go_ret
  all_goals refine ⟨ret_bool ?_, (Below.refl _ _).alloc (Nat.le_refl _) _⟩
  all_goals (go_tidy; simp_all [keepsB])
  all_goals (intros; omega)

/-- The order's mode. -/
def modeOf (m d : Int) : Int := if m = 0 then d else m

set_option maxHeartbeats 400000 in
theorem mode20 (sb : Nat) (d m : Int) (w : World) (h : w.cell? ⟨sb, 3, none⟩ = some (.int .u8 d)) :
    Calls Yba.prog 20 #[.pointer (some ⟨sb, 0, none⟩), .int .u8 m] w fun e w' => e = .returned (.int .u8 (modeOf m d)) ∧ w' = w := by
  by_cases hm : m = 0
  · subst hm
    go_enter Yba.func20, Yba.ntmps20
    go_wp2
    go_ret
    exact ⟨rfl, rfl⟩
  · have hb : (m == 0) = false := beq_eq_false_iff_ne.2 hm
    have H : Hid (modeOf m d = m) := if_neg hm
    clear hm
    go_enter Yba.func20, Yba.ntmps20
    go_wp2
    go_ret
    exact ⟨by rw [H.out]; rfl, rfl⟩

/-- One drawn group. -/
structure Grp where
  acct : Int
  group : Int

/-- The group of an account after the first n drawn groups. -/
def grpTo (g : Nat → Grp) (a : ByteArray) : Nat → ByteArray
  | 0 => ⟨#[]⟩
  | n + 1 => if acctB ((g n).acct % 3 + 1) = a then gnameB (g n).group else grpTo g a n

def GrpsAt (w : World) (a : Option Addr) (n : Nat) (g : Nat → Grp) : Prop :=
  (0 < n → ∃ b off, a = some ⟨b, off, none⟩ ∧ b < w.heap.size ∧ ∀ i, i < n →
    w.cell? ⟨b, off + i * 2, none⟩ = some (.int .u8 (g i).acct) ∧ w.cell? ⟨b, off + i * 2 + 1, none⟩ = some (.int .u8 (g i).group)) ∧
  ∀ i, i < n → (0 ≤ (g i).acct ∧ (g i).acct ≤ 255) ∧ (0 ≤ (g i).group ∧ (g i).group ≤ 255)

theorem GrpsAt.below {w w' : World} {a : Option Addr} {n : Nat} {g : Nat → Grp} (h : GrpsAt w a n g) (hb : Below w.heap.size w w') : GrpsAt w' a n g := by
  refine ⟨fun hn => ?_, h.2⟩
  obtain ⟨b, off, ha, hlt, hc⟩ := h.1 hn
  refine ⟨b, off, ha, Nat.lt_of_lt_of_le hlt hb.size, fun i hi => ?_⟩
  obtain ⟨c0, c1⟩ := hc i hi
  exact ⟨(hb.cell (p := ⟨b, _, none⟩) hlt).trans c0, (hb.cell (p := ⟨b, _, none⟩) hlt).trans c1⟩

theorem toList_inj {a b : ByteArray} (h : a.toList = b.toList) : a = b := by
  rw [ByteArray.toList_eq, ByteArray.toList_eq] at h
  exact ByteArray.ext (Array.toList_inj.1 h)

theorem toList_ne {a b : ByteArray} (h : ¬ a = b) : (a.toList == b.toList) = false := by
  rw [Bool.eq_false_iff]
  intro h1
  exact h (toList_inj (by simpa using h1))

theorem toList_is {a b : ByteArray} (h : a = b) : (a.toList == b.toList) = true := by subst h; simp

set_option maxHeartbeats 1000000 in
theorem groupof13 (a : Option Addr) (n c : Nat) (s : ByteArray) (g : Nat → Grp) (w : World) (h : GrpsAt w a n g) (hn : n ≤ 1024) :
    Calls Yba.prog 13 #[.slice a n c, .string s] w fun e w' => e = .returned (.string (grpTo g s n)) ∧ Below w.heap.size w w' := by
  go_enter Yba.func13, Yba.ntmps13
  go_wp2
  go_loopg [5, 10] n (fun gk v i wr => ∃ k : Nat, k + gk = n ∧ i = .int .i64 k ∧ v = .string (grpTo g s k) ∧ Below w.heap.size w wr)
  case atStart => exact ⟨0, by omega, rfl, rfl, Below.refl _ _⟩
  case round =>
    obtain ⟨k, hk, rfl, rfl, hbel⟩ := hrel
    by_cases hlt : k < n
    · obtain ⟨b, off, rfl, _, hc⟩ := (h.below hbel).1 (by omega)
      obtain ⟨g0, g1⟩ := hc k hlt
      obtain ⟨⟨f1, f2⟩, f3, f4⟩ := h.2 k hlt
      clear hc
      have HM : Hid (grpTo g s (k + 1) = if acctB ((g k).acct % 3 + 1) = s then gnameB (g k).group else grpTo g s k) := rfl
      generalize grpTo g s k = gs at *
      go_wp2_with fail
      refine (acct7 _ _ (by omega) (by omega)).mono ?_
      rintro e w1 ⟨rfl, rfl⟩
      by_cases hs : acctB ((g k).acct % 3 + 1) = s
      · have hsb := toList_is hs
        have HS : Hid (acctB ((g k).acct % 3 + 1) = s) := hs
        clear hs
        go_wp2_with fail
        refine (gname6 _ _ f3 f4).mono ?_
        rintro e w1 ⟨rfl, rfl⟩
        go_wp2
        go_roundg (gk - 1)
        case rel => exact ⟨k + 1, by omega, by go_num, by rw [HM.out, if_pos HS.out], hbel.alloc hbel.size _⟩
        case measure => omega
      · have hsb := toList_ne hs
        have HS : Hid (¬ acctB ((g k).acct % 3 + 1) = s) := hs
        clear hs
        go_wp2
        go_roundg (gk - 1)
        case rel => exact ⟨k + 1, by omega, by go_num, by rw [HM.out, if_neg HS.out], hbel.alloc hbel.size _⟩
        case measure => omega
    · go_wp2
      go_ret
      have : k = n := by omega
      subst this
      exact ⟨rfl, hbel⟩

/-- A look-up in a map of strings. -/
theorem zero9 (w : World) : (zeroValue 9).run Yba.prog w = .ok (.string ⟨#[]⟩) w := by kernel_rfl

/-- Block gb is a map from accounts to groups that answers G. -/
def GMap (w : World) (gb : Nat) (G : ByteArray → ByteArray) : Prop :=
  ∃ es cl, w.heap[gb]? = some (.map es cl) ∧ (∀ e ∈ es.toList, ∃ k, e.key = .string k) ∧ ∀ s, ∃ r, Instr.findNow .string (.string s) es.toList 0 = some r ∧ (r.map (·.2)).getD (.string ⟨#[]⟩) = .string (G s)

theorem GMap.look {w : World} {gb : Nat} {G : ByteArray → ByteArray} (h : GMap w gb G) (s : ByteArray) :
    (Instr.lookup 29 (.map (some gb)) (.string s) false).run Yba.prog w = .ok (.string (G s)) w := by
  obtain ⟨es, cl, hm, _, hf⟩ := h
  obtain ⟨r, h1, h2⟩ := hf s
  rw [look_str Yba.underlying29 Yba.underlying9 (zero9 w) hm h1, h2]

def sharedB (G : ByteArray → ByteArray) (a b : ByteArray) : ByteArray := if G b = G a then G a else ⟨#[]⟩

set_option maxRecDepth 100000 in
set_option maxHeartbeats 400000 in
theorem shared25 (gb : Nat) (a b : ByteArray) (G : ByteArray → ByteArray) (w : World) (h : GMap w gb G) :
    Calls Yba.prog 25 #[.map (some gb), .string a, .string b] w fun e w' => e = .returned (.string (sharedB G a b)) ∧ w' = w := by
  have l1 := h.look a
  have l2 := h.look b
  by_cases hs : G b = G a
  · have hsb := toList_is hs
    have H : Hid (sharedB G a b = G a) := if_pos hs
    clear hs
    go_enter Yba.func25, Yba.ntmps25
    go_wp2
    go_ret
    exact ⟨by rw [H.out]; rfl, rfl⟩
  · have hsb := toList_ne hs
    have H : Hid (sharedB G a b = ⟨#[]⟩) := if_neg hs
    clear hs
    go_enter Yba.func25, Yba.ntmps25
    go_wp2
    go_ret
    exact ⟨by rw [H.out]; rfl, rfl⟩

/-- One owner: as the law says it. -/
def sameB (G : ByteArray → ByteArray) (a b : ByteArray) : Bool := (!a.toList.isEmpty && (a.toList == b.toList)) || (!(G a).toList.isEmpty && ((G a).toList == (G b).toList))

theorem shared_some (G : ByteArray → ByteArray) (a b : ByteArray) : (!(sharedB G a b).toList.isEmpty) = (!(G a).toList.isEmpty && ((G a).toList == (G b).toList)) := by
  unfold sharedB
  by_cases h : G b = G a
  · simp [h]
  · have := toList_ne (fun e => h (Eq.symm e) : ¬ G a = G b)
    simp [h, this]

set_option maxRecDepth 100000 in
set_option maxHeartbeats 400000 in
theorem same21 (gb : Nat) (a b : ByteArray) (G : ByteArray → ByteArray) (w : World) (h : GMap w gb G) :
    Calls Yba.prog 21 #[.map (some gb), .string a, .string b] w fun e w' => e = .returned (.bool (sameB G a b)) ∧ w' = w := by
  have H : Hid (GMap w gb G) := h
  clear h
  cases e1 : a.toList.isEmpty with
  | true =>
    have HR : Hid (sameB G a b = !(sharedB G a b).toList.isEmpty) := by show _ = _; rw [shared_some]; simp [sameB, e1]
    go_enter Yba.func21, Yba.ntmps21
    go_wp2_with fail
    refine (shared25 gb a b G _ H.out).mono ?_
    rintro e w1 ⟨rfl, rfl⟩
    go_wp2
    go_ret
    exact ⟨by rw [HR.out]; rfl, rfl⟩
  | false =>
    cases e2 : (a.toList == b.toList) with
    | true =>
      have HR : Hid (sameB G a b = true) := by show _ = _; simp only [sameB, e1, e2]; simp
      go_enter Yba.func21, Yba.ntmps21
      go_wp2_with fail
      go_ret
      exact ⟨by rw [HR.out]; rfl, rfl⟩
    | false =>
      have HR : Hid (sameB G a b = !(sharedB G a b).toList.isEmpty) := by show _ = _; rw [shared_some]; simp only [sameB, e1, e2]; simp
      go_enter Yba.func21, Yba.ntmps21
      go_wp2_with fail
      refine (shared25 gb a b G _ H.out).mono ?_
      rintro e w1 ⟨rfl, rfl⟩
      go_wp2
      go_ret
      exact ⟨by rw [HR.out]; rfl, rfl⟩

/-- The row of drawn orders of this law in memory. -/
def AOrdsAt (w : World) (a : Option Addr) (n : Nat) (O : Nat → Ord) : Prop :=
  (0 < n → ∃ b off, a = some ⟨b, off, none⟩ ∧ b < w.heap.size ∧ ∀ i, i < n →
    w.cell? ⟨b, off + i * 5, none⟩ = some (.int .i64 (O i).price) ∧ w.cell? ⟨b, off + i * 5 + 1, none⟩ = some (.int .i64 (O i).qty) ∧
    w.cell? ⟨b, off + i * 5 + 2, none⟩ = some (.int .i64 (O i).ex) ∧ w.cell? ⟨b, off + i * 5 + 3, none⟩ = some (.int .i64 (O i).pr) ∧
    w.cell? ⟨b, off + i * 5 + 4, none⟩ = some (.int .i64 (O i).re))

theorem AOrdsAt.below {w w' : World} {a : Option Addr} {n : Nat} {O : Nat → Ord} (h : AOrdsAt w a n O) (hb : Below w.heap.size w w') : AOrdsAt w' a n O := by
  refine fun hn => ?_
  obtain ⟨b, off, ha, hlt, hc⟩ := h hn
  refine ⟨b, off, ha, Nat.lt_of_lt_of_le hlt hb.size, fun i hi => ?_⟩
  obtain ⟨c0, c1, c2, c3, c4⟩ := hc i hi
  exact ⟨(hb.cell (p := ⟨b, _, none⟩) hlt).trans c0, (hb.cell (p := ⟨b, _, none⟩) hlt).trans c1, (hb.cell (p := ⟨b, _, none⟩) hlt).trans c2,
    (hb.cell (p := ⟨b, _, none⟩) hlt).trans c3, (hb.cell (p := ⟨b, _, none⟩) hlt).trans c4⟩

set_option maxHeartbeats 1000000 in
theorem holds11 (a : Option Addr) (n c : Nat) (O : Nat → Ord) (w : World) (h : AOrdsAt w a n O) (hn : n ≤ 1024) :
    Calls Yba.prog 11 #[.slice a n c] w fun e w' => e = .returned (.bool (okTo O n)) ∧ Below w.heap.size w w' := by
  go_enter Yba.func11, Yba.ntmps11
  go_wp2
  go_loopw [7] (fun i wr => ∃ k : Nat, k ≤ n ∧ i = .int .i64 k ∧ okTo O k = true ∧ Below w.heap.size w wr) (fun i _ => n - (intOf i).toNat)
  case atStart => exact ⟨0, Nat.zero_le _, rfl, rfl, Below.refl _ _⟩
  case round =>
    obtain ⟨k, hk, rfl, hb, hbel⟩ := hrel
    have HB : Hid (okTo O k = true) := hb
    clear hb
    by_cases hlt : k < n
    · obtain ⟨b, off, rfl, _, hc⟩ := (h.below hbel) (by omega)
      obtain ⟨g0, g1, g2, g3, g4⟩ := hc k hlt
      clear hc
      by_cases h10 : (O k).re ≤ 0
      · have HK : Hid (okTo O n = false) := okTo_false (k := k + 1) (by omega) (by simp [okTo, okOrd, show ¬ 0 < (O k).re by omega])
        go_wp2
        go_ret
        exact ⟨by rw [HK.out]; rfl, hbel.alloc hbel.size _⟩
      · have d10 : 0 < (O k).re := by omega
        have d11 : decide ((O k).re ≤ 0) = false := by simpa using h10
        by_cases hq : wrap64 (wrap64 ((O k).ex + (O k).pr) + (O k).re) = (O k).qty
        · have dq : (wrap64 (wrap64 ((O k).ex + (O k).pr) + (O k).re) != (O k).qty) = false := by simp [hq]
          have HK : Hid (okTo O (k + 1) = true) := by have := HB.out; show _ = _; simp [okTo, okOrd, d10, hq, this]
          clear hq
          go_wp2
          go_roundw
          case rel => exact ⟨k + 1, by omega, by go_num, HK.out, hbel.alloc hbel.size _⟩
          case measure => simp [intOf]; omega
        · have dq : (wrap64 (wrap64 ((O k).ex + (O k).pr) + (O k).re) != (O k).qty) = true := by simp [hq]
          have HK : Hid (okTo O n = false) := okTo_false (k := k + 1) (by omega) (by simp [okTo, okOrd, hq])
          clear hq
          go_wp2
          go_ret
          exact ⟨by rw [HK.out]; rfl, hbel.alloc hbel.size _⟩
    · go_wp2
      go_ret
      have : k = n := by omega
      subst this
      exact ⟨by rw [HB.out]; rfl, hbel⟩

end Go.Proofs.Ybulkcinc
