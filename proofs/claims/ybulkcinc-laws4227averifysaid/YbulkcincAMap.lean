/-
  A store into a map from strings to strings, its entries known.
-/
import Derived.Test.YbulkcincASmall
namespace Go.Proofs.Ybulkcinc
open Go.RowKit

/-- The world with another object in a block. -/
def putObj (w : World) (b : Nat) (o : Obj) : World := { w with heap := w.heap.setIfInBounds b o }

def StrKeys (l : List MapEntry) : Prop := ∀ e ∈ l, ∃ k, e.key = .string k

theorem beq_bytes_ne {a b : ByteArray} (h : ¬ a = b) : (a == b) = false := by
  rw [Bool.eq_false_iff]
  intro h1
  exact h ((MapKept.bytes_beq _ _).1 h1)
theorem beq_bytes_eq (a : ByteArray) : (a == a) = true := (MapKept.bytes_beq _ _).2 rfl

theorem findNow_cons (s k : ByteArray) (v : Value) (bo : Nat) (l : List MapEntry) (i : Nat) :
    Instr.findNow .string (.string s) (⟨.string k, v, bo⟩ :: l) i = if s = k then some (some (i, v)) else Instr.findNow .string (.string s) l (i + 1) := by
  by_cases h : s = k
  · subst h
    simp [Instr.findNow, Instr.sameNow, beq_bytes_eq]
  · simp [Instr.findNow, Instr.sameNow, beq_bytes_ne h, h]

/-- The answer alone. -/
def ansOf (r : Option (Option (Nat × Value))) : Option Value := (r.getD none).map (·.2)

theorem find_some (s : ByteArray) : ∀ (l : List MapEntry) (i : Nat), StrKeys l → ∃ r, Instr.findNow .string (.string s) l i = some r
  | [], i, _ => ⟨none, rfl⟩
  | e :: l, i, h => by
    obtain ⟨k, hk⟩ := h e (.head _)
    obtain ⟨key, v, bo⟩ := e
    subst hk
    rw [findNow_cons]
    split
    · exact ⟨_, rfl⟩
    · exact find_some s l (i + 1) (fun x hx => h x (.tail _ hx))

theorem find_shift (s : ByteArray) : ∀ (l : List MapEntry) (i j : Nat), StrKeys l → ansOf (Instr.findNow .string (.string s) l i) = ansOf (Instr.findNow .string (.string s) l j)
  | [], i, j, _ => rfl
  | e :: l, i, j, h => by
    obtain ⟨k, hk⟩ := h e (.head _)
    obtain ⟨key, v, bo⟩ := e
    subst hk
    rw [findNow_cons, findNow_cons]
    split
    · rfl
    · exact find_shift s l (i + 1) (j + 1) (fun x hx => h x (.tail _ hx))

/-- A new entry at the end. -/
theorem find_push (s k : ByteArray) (v : Value) (bo : Nat) : ∀ (l : List MapEntry) (i : Nat), StrKeys l → Instr.findNow .string (.string k) l i = some none →
    ansOf (Instr.findNow .string (.string s) (l ++ [⟨.string k, v, bo⟩]) i) = if k = s then some v else ansOf (Instr.findNow .string (.string s) l i)
  | [], i, _, _ => by
    rw [List.nil_append, findNow_cons]
    by_cases h : s = k
    · subst h; simp [ansOf]
    · have h' : ¬ k = s := fun e => h e.symm
      simp [h, h', Instr.findNow]
  | e :: l, i, hs, hn => by
    obtain ⟨k', hk⟩ := hs e (.head _)
    obtain ⟨key, v', bo'⟩ := e
    subst hk
    have hs' : StrKeys l := fun x hx => hs x (.tail _ hx)
    rw [findNow_cons] at hn
    rw [List.cons_append, findNow_cons, findNow_cons]
    by_cases hkk : k = k'
    · rw [if_pos hkk] at hn; cases hn
    rw [if_neg hkk] at hn
    by_cases h : s = k'
    · rw [if_pos h, if_pos h, if_neg (fun e => hkk (e.trans h))]
    · rw [if_neg h, if_neg h]
      exact find_push s k v bo l (i + 1) hs' hn

/-- An entry that is there, written anew. -/
theorem find_modify (s k : ByteArray) (v : Value) : ∀ (l : List MapEntry) (i j : Nat) (old : Value), StrKeys l → Instr.findNow .string (.string k) l i = some (some (j, old)) →
    i ≤ j ∧ (∃ e, l[j - i]? = some e ∧ e.key = .string k) ∧ ansOf (Instr.findNow .string (.string s) (l.modify (j - i) fun e => { e with key := .string k, val := v }) i) = if k = s then some v else ansOf (Instr.findNow .string (.string s) l i)
  | [], i, j, old, _, h => by simp [Instr.findNow] at h
  | e :: l, i, j, old, hs, hf => by
    obtain ⟨k', hk⟩ := hs e (.head _)
    obtain ⟨key, v', bo'⟩ := e
    subst hk
    have hs' : StrKeys l := fun x hx => hs x (.tail _ hx)
    rw [findNow_cons] at hf
    by_cases hkk : k = k'
    · subst hkk
      rw [if_pos rfl] at hf
      simp at hf
      obtain ⟨rfl, rfl⟩ := hf
      refine ⟨Nat.le_refl _, ⟨_, by simp; rfl, rfl⟩, ?_⟩
      rw [Nat.sub_self, List.modify_zero_cons, findNow_cons, findNow_cons]
      by_cases h : s = k
      · subst h; simp [ansOf]
      · have h' : ¬ k = s := fun e => h e.symm
        simp [h, h']
    · rw [if_neg hkk] at hf
      obtain ⟨hle, ⟨e1, he1, hk1⟩, ih⟩ := find_modify s k v l (i + 1) j old hs' hf
      obtain ⟨d, hd⟩ : ∃ d, j - i = d + 1 := ⟨j - i - 1, by omega⟩
      have hd' : j - (i + 1) = d := by omega
      rw [hd'] at ih he1
      refine ⟨by omega, ⟨e1, by rw [hd]; simpa using he1, hk1⟩, ?_⟩
      rw [hd, List.modify_succ_cons, findNow_cons, findNow_cons]
      by_cases h : s = k'
      · rw [if_pos h, if_pos h, if_neg (fun e => hkk (e.trans h))]
      · rw [if_neg h, if_neg h]
        exact ih

theorem strKeys_modify {l : List MapEntry} (h : StrKeys l) (j : Nat) (k : ByteArray) (v : Value) : StrKeys (l.modify j fun e => { e with key := .string k, val := v }) := by
  intro e he
  obtain ⟨i, hi⟩ := List.mem_iff_getElem?.1 he
  rw [List.getElem?_modify] at hi
  obtain ⟨x, hx, hxe⟩ := Option.map_eq_some_iff.1 hi
  split at hxe
  · subst hxe; exact ⟨k, rfl⟩
  · subst hxe; exact h x (List.mem_of_getElem? hx)

/-- 'm[k] = v'. -/
theorem GMap.update {w : World} {gb : Nat} {G : ByteArray → ByteArray} (h : GMap w gb G) (k v : ByteArray) :
    ∃ o, (∀ W : World, W.heap[gb]? = w.heap[gb]? → (Instr.mapUpdate 29 (.map (some gb)) (.string k) (.string v)).run Yba.prog W = .ok () (putObj W gb o)) ∧
      ∀ W : World, gb < W.heap.size → GMap (putObj W gb o) gb (fun s => if k = s then v else G s) := by
  obtain ⟨es, cl, hm, hk, hf⟩ := h
  have hc := fun W => MapKept.run_checkKey (P := Yba.prog) (w := W) (k := .string k) Yba.underlying9 (by simp [MapKept.IsKey]) false 9999
  obtain ⟨r, hr, hrv⟩ := hf k
  have hg := fun W => MapKept.run_findKey (P := Yba.prog) (w := W) (k := .string k) Yba.underlying9 hr
  have fin : ∀ l : List MapEntry, StrKeys l → (∀ s, ansOf (Instr.findNow .string (.string s) l 0) = if k = s then some (.string v) else ansOf (Instr.findNow .string (.string s) es.toList 0)) →
      ∀ s, ∃ r, Instr.findNow .string (.string s) l 0 = some r ∧ (r.map (·.2)).getD (.string ⟨#[]⟩) = .string (if k = s then v else G s) := by
    intro l hl ha s
    obtain ⟨r1, h1⟩ := find_some s l 0 hl
    refine ⟨r1, h1, ?_⟩
    have := ha s
    rw [h1] at this
    simp only [ansOf, Option.getD_some] at this
    rw [this]
    by_cases hks : k = s
    · simp [hks]
    · obtain ⟨r2, h2, h3⟩ := hf s
      rw [h2]
      simp only [if_neg hks, Option.getD_some]
      exact h3
  cases r with
  | none =>
    refine ⟨.map (es.push ⟨.string k, .string v, cl⟩) (cl + 1), fun W hW => ?_, fun W hW => ⟨es.push ⟨.string k, .string v, cl⟩, cl + 1, by simp [putObj, hW], ?_, ?_⟩⟩
    · have hm' : W.heap[gb]? = some (.map es cl) := hW.trans hm
      simp only [Instr.mapUpdate, Sem.run_bind, run_underlying Yba.underlying29, Result.andThen, MapKept.run_getObj_map hm', hc, hg]
      rw [MapKept.run_setObj_map _ hm']
      rfl
    · intro e he
      simp at he
      rcases he with he | he
      · exact hk e (by simpa using he)
      · subst he; exact ⟨k, rfl⟩
    · rw [Array.toList_push]
      exact fin _ (by
        intro e he
        simp at he
        rcases he with he | he
        · exact hk e (by simpa using he)
        · subst he; exact ⟨k, rfl⟩) (fun s => find_push s k (.string v) cl es.toList 0 hk hr)
  | some p =>
    obtain ⟨j, old⟩ := p
    obtain ⟨_, ⟨e1, he1, hk1⟩, _⟩ := find_modify k k (.string v) es.toList 0 j old hk hr
    refine ⟨.map (es.modify j fun e => { e with key := .string k, val := .string v }) cl, fun W hW => ?_, fun W hW => ⟨es.modify j fun e => { e with key := .string k, val := .string v }, cl, by simp [putObj, hW], ?_, ?_⟩⟩
    · have hm' : W.heap[gb]? = some (.map es cl) := hW.trans hm
      have hkey : ((es[j]?).map (·.key)).getD (.string k) = .string k := by
        have : es[j]? = some e1 := by simpa using he1
        rw [this]; exact hk1
      simp only [Instr.mapUpdate, Sem.run_bind, run_underlying Yba.underlying29, Result.andThen, MapKept.run_getObj_map hm', hc, hg, hkey]
      have hst : (Instr.keyThatStays (.string k) (.string k)).run Yba.prog W = .ok (.string k) W := by
        have : Instr.sameBits 10000 (.string k) (.string k) = true := by unfold Instr.sameBits; exact beq_bytes_eq k
        simp [Instr.keyThatStays, this]
      simp only [hst]
      rw [MapKept.run_setObj_map _ hm']
      rfl
    · rw [Array.toList_modify]
      exact strKeys_modify hk j k (.string v)
    · rw [Array.toList_modify]
      exact fin _ (strKeys_modify hk j k (.string v)) (fun s => (find_modify s k (.string v) es.toList 0 j old hk hr).2.2)

end Go.Proofs.Ybulkcinc
