/-
  What 'verify' answers in 'LawS4227AVerify', whatever the engine holds; and that the law's own reckoning is the same.
-/
import Derived.Test.YbulkcincABook
namespace Go.Proofs.Ybulkcinc
open Go.RowKit

def quantB : ByteArray := ⟨#[81, 85, 65, 78, 84, 73, 84, 89, 95, 82, 85, 76, 69]⟩
def crossB : ByteArray := ⟨#[67, 82, 79, 83, 83, 69, 68, 95, 66, 79, 79, 75]⟩
def symT : ByteArray := ⟨#[84]⟩

/-- The rule of a book, as bytes. -/
def bookB (cross ok bad : Bool) : ByteArray := if cross then crossB else if ok = false then quantB else if bad then quantB else ⟨#[]⟩

/-- The two best prices meet. -/
def crossed (O4 O5 : Nat → Ord) (n4 n5 : Nat) : Bool := decide (0 < n4) && decide (0 < n5) && decide (minTo (clampO O5) n5 ≤ maxTo (clampO O4) n4)

theorem okTo_clamp (O : Nat → Ord) : ∀ n, okTo (clampO O) n = okTo O n
  | 0 => rfl
  | n + 1 => by
    have := okTo_clamp O n
    show (okTo (clampO O) n && okOrd (clampO O n)) = (okTo O n && okOrd (O n))
    rw [this]
    rfl

theorem clamp_ok (O : Nat → Ord) (n : Nat) : PriceOk (clampO O) n := fun i _ => by
  show -2147483648 ≤ (O i).price.tmod 1000000 ∧ (O i).price.tmod 1000000 ≤ 2147483647
  have h1 := Int.tmod_lt_of_pos (O i).price (show (0 : Int) < 1000000 by decide)
  have h2 : -1000000 < (O i).price.tmod 1000000 := by
    have := Int.lt_tmod_of_pos (O i).price (show (0 : Int) < 1000000 by decide)
    omega
  omega

theorem vrule_is (O4 O5 : Nat → Ord) (n4 n5 : Nat) (bad : Bool) :
    vrule (vfold 1 ⟨0, false, true⟩ (ordsOf (clampO O4) n4)).best (decide (0 < n4)) (okTo (clampO O4) n4) (vfold (-1) ⟨0, false, true⟩ (ordsOf (clampO O5) n5)).best (decide (0 < n5)) (okTo (clampO O5) n5) bad
      = .string (bookB (crossed O4 O5 n4 n5) (okTo O4 n4 && okTo O5 n5) bad) := by
  rw [okTo_clamp, okTo_clamp]
  by_cases p4 : 0 < n4
  · by_cases p5 : 0 < n5
    · have M1 : (vfold 1 ⟨0, false, true⟩ (ordsOf (clampO O4) n4)).best = maxTo (clampO O4) n4 := by
        obtain ⟨j, rfl⟩ : ∃ j, n4 = j + 1 := ⟨n4 - 1, by omega⟩
        exact vmax (clamp_ok O4 _) j (Nat.le_refl _)
      have M2 : (vfold (-1) ⟨0, false, true⟩ (ordsOf (clampO O5) n5)).best = minTo (clampO O5) n5 := by
        obtain ⟨j, rfl⟩ : ∃ j, n5 = j + 1 := ⟨n5 - 1, by omega⟩
        exact vmin (clamp_ok O5 _) j (Nat.le_refl _)
      rw [M1, M2]
      unfold vrule crossed bookB
      simp only [p4, p5, decide_true, Bool.true_and]
      cases decide (minTo (clampO O5) n5 ≤ maxTo (clampO O4) n4) <;> cases okTo O4 n4 <;> cases okTo O5 n5 <;> cases bad <;> rfl
    · unfold vrule crossed bookB
      simp only [p4, p5, decide_true, decide_false, Bool.true_and, Bool.false_and]
      cases okTo O4 n4 <;> cases okTo O5 n5 <;> cases bad <;> rfl
  · unfold vrule crossed bookB
    simp only [p4, decide_false, Bool.false_and]
    cases okTo O4 n4 <;> cases okTo O5 n5 <;> cases bad <;> rfl

theorem vstate' (sg : Int) (O : Nat → Ord) (n : Nat) : vfold sg ⟨0, false, true⟩ (ordsOf O n) = ⟨(vfold sg ⟨0, false, true⟩ (ordsOf O n)).best, decide (0 < n), okTo O n⟩ := by
  have h := vhold sg O n
  unfold ordsOf
  rw [← h.1, ← h.2]

/-- The answer. -/
def gotB (there : Bool) (cross ok bad : Bool) (mode : Int) (self : Bool) : ByteArray :=
  if there then verB (bookB cross ok bad) mode self else if bad then quantB else ⟨#[]⟩

theorem find_S : Instr.findNow .string (.string symT) (#[] : Array MapEntry).toList 0 = some none := rfl

theorem bytes_ST (v : Value) : Instr.findNow .string (.string symT) (#[(⟨.string symS, v, 0⟩ : MapEntry)]).toList 0 = some none := by
  rw [show (#[(⟨.string symS, v, 0⟩ : MapEntry)]).toList = [⟨.string symS, v, 0⟩] from rfl, findNow_cons, if_neg (by decide +kernel)]
  rfl
theorem bytes_SS (v : Value) : Instr.findNow .string (.string symS) (#[(⟨.string symS, v, 0⟩ : MapEntry)]).toList 0 = some (some (0, v)) := by
  rw [show (#[(⟨.string symS, v, 0⟩ : MapEntry)]).toList = [⟨.string symS, v, 0⟩] from rfl, findNow_cons, if_pos rfl]

theorem ruleOf_bytes (bad : Bool) : ruleOf bad = .string (if bad then quantB else ⟨#[]⟩) := by cases bad <;> rfl

/-- 'verify' in whatever engine the law makes. -/
theorem ver_any (hasB othS : Bool) (named d : Int) (B0 Bx n c : Nat) (E : Nat → AEv) (G : ByteArray → ByteArray) (O4 O5 : Nat → Ord) (n4 n5 : Nat) (w W : World)
    (hI : BookInv w B0 G d (ordsOf (clampO O4) n4) (ordsOf (clampO O5) n5) hasB W) (hev : AEvsAt Bx W Bx n E) (hn : n ≤ 1024) :
    Calls Yba.prog 9 #[.agg (newOrderV (if othS then symT else symS) named), .pointer (some ⟨B0 + 2, 0, none⟩), .slice (some ⟨Bx, 0, none⟩) n c] W fun e w' =>
      e = .returned (.string (gotB (hasB && !othS) (crossed O4 O5 n4 n5) (okTo O4 n4 && okTo O5 n5) (badTo (toRep E) n) (modeOf named d) (selfTo G E n))) ∧ Below W.heap.size W w' := by
  rcases hI with ⟨rfl, h1, h2, h3, h4⟩ | ⟨rfl, bb, sb, al1, al2, nl1, cl1, nl2, cl2, C1, C2, ⟨h1, h2, h3, h4⟩, c3, c0, c2, c4, c5, c7, k1, k2, l1, l2, f1, f2⟩
  · have := verify9_none (if othS then symT else symS) named (B0 + 2) B0 0 Bx Bx n c #[] E W (cellOf h1 0) h2 rfl hev hn
    rw [ruleOf_bytes] at this
    exact this
  cases othS with
  | true =>
    have := verify9_none symT named (B0 + 2) B0 1 Bx Bx n c _ E W (cellOf h1 0) h2 (bytes_ST _) hev hn
    rw [ruleOf_bytes] at this
    exact this
  | false =>
    have hv := vrule_is O4 O5 n4 n5 (badTo (toRep E) n)
    refine (verify9_book symS named d (B0 + 2) B0 1 Bx Bx n c bb sb (B0 + 1) 0 _ E G W (cellOf h1 0) h2 (cellOf h1 1) h3 c0 c3 (bytes_SS _) hev hn al1 al2 nl1 cl1 nl2 cl2 C1 C2 c2 c4 c5 c7 l1 l2 k1 k2 _ _ _ _ _ _ ?_ ?_ _ hv)
    · rw [f1]
      exact vstate' 1 (clampO O4) n4
    · rw [f2]
      exact vstate' (-1) (clampO O5) n5

/-! ### the law's own reckoning, step by step -/
def crB (c : Bool) : ByteArray := if c then crossB else ⟨#[]⟩
/-- Behind the book. -/
def want1 (there cross ok : Bool) : ByteArray := if there then (if cross then crossB else if ok = false then quantB else ⟨#[]⟩) else ⟨#[]⟩
/-- Behind the events. -/
def want2 (there cross ok bad : Bool) : ByteArray := if (want1 there cross ok).toList.isEmpty = false then want1 there cross ok else if bad then quantB else ⟨#[]⟩
/-- Behind the trades. -/
def want3 (there cross ok bad : Bool) (mode : Int) (self : Bool) : ByteArray :=
  if (want2 there cross ok bad).toList.isEmpty && there && !decide (mode = 1) && self then selfB else want2 there cross ok bad

theorem want_is (there cross ok bad : Bool) (mode : Int) (self : Bool) : want3 there cross ok bad mode self = gotB there cross ok bad mode self := by
  have e1 : ¬ crossB.toList = [] := by decide +kernel
  have e2 : ¬ quantB.toList = [] := by decide +kernel
  by_cases hm : mode = 1
  · cases there <;> cases cross <;> cases ok <;> cases bad <;> cases self <;> simp [want3, want2, want1, gotB, verB, bookB, hm, e1, e2]
  · cases there <;> cases cross <;> cases ok <;> cases bad <;> cases self <;> simp [want3, want2, want1, gotB, verB, bookB, hm, e1, e2]
end Go.Proofs.Ybulkcinc
