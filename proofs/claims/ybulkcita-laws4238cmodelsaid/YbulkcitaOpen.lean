/-
  A slice of structs that came in, whose fields are one cell each: opened at every element and field.
-/
import Derived.Deep.Fields
import Derived.ProofKit
namespace Go.Proofs.Ybulkcita
open Go.Deep Go.ChangeShapes Go.WideShapes

section
variable {H : Type} {enc : TypeId × Value → H} {P : Program} {w : World} {base : Nat} {spare : Nat → Bool} {held : Bool}

theorem open_structs {t e : TypeId} {fs : Array Field} {fuel : Nat} {a : Option Addr} {len cap : Nat} {x : DataW H × List MemPlace} (ht : P.underlying t = some (.slice e)) (hs : P.underlying e = some (.struct fs))
    (hone : oneCellFields P fs = true) (hC : P.cellsOf e = fs.size) (hpos : 0 < fs.size) (h : DataW.trod enc P w base spare held fuel t [.slice a len cap] = some x) :
    (a = none → len = 0) ∧ (0 < len → ∃ b off, a = some ⟨b, off, none⟩ ∧ b < w.heap.size ∧ ∀ i, i < len → ∀ j f, fs[j]? = some f → ∃ v y n, w.cell? ⟨b, off + i * fs.size + j, none⟩ = some v ∧ DataW.trod enc P w base spare held n f.type [v] = some y) := by
  rcases open_slice ht h with ⟨hcs, _⟩ | ⟨ad, len', cap', m, n, D, Pl, hcs, _, hl, hm, hmm, hx, hel⟩
  · simp at hcs
    obtain ⟨rfl, rfl, rfl⟩ := hcs
    exact ⟨fun _ => rfl, fun h => absurd h (by omega)⟩
  simp at hcs
  obtain ⟨rfl, rfl, rfl⟩ := hcs
  refine ⟨fun h => (by cases h), fun hlen => ?_⟩
  have hml : len ≤ m := by rw [hmm]; split <;> omega
  have hone' := hone_of hone
  have key : ∀ i, i < len → ∀ j f, fs[j]? = some f → ∃ v y n, w.cell? (ad.add (i * fs.size + j)) = some v ∧ DataW.trod enc P w base spare held n f.type [v] = some y := by
    intro i hi j f hj
    obtain ⟨cs', hc, htr⟩ := hel i (by omega)
    rw [hC] at hc
    obtain ⟨_, hlen', hcell⟩ := World.cells?_some hc
    obtain ⟨xs, n', _, _, _, hxl, hf⟩ := DataW.trod_struct hs htr
    have hlt : j < fs.size := (Array.getElem?_eq_some_iff.1 hj).1
    obtain ⟨ho, hc1⟩ := hone' j f hj
    have g := hf j f hj
    rw [ho, hc1] at g
    rw [take1_drop cs' j undef (by omega), List.getElem?_eq_getElem (by omega)] at g
    refine ⟨_, _, _, ?_, g⟩
    have hcj := hcell j hlt
    rw [add_add, List.getElem?_eq_getElem (by omega)] at hcj
    rw [hcj]
    simp [List.getD, List.getElem?_eq_getElem (show j < cs'.length by omega)]
  obtain ⟨b, off, spot⟩ := ad
  obtain ⟨v, _, _, h0, _⟩ := key 0 hlen 0 _ (Array.getElem?_eq_getElem hpos)
  have hspot : spot = none := by simpa [Addr.add] using World.cell?_spot h0
  subst hspot
  refine ⟨b, off, rfl, ?_, fun i hi j f hj => ?_⟩
  · have := World.block_lt_of_cell? w _ h0
    simpa [Addr.add] using this
  · obtain ⟨v, y, n, hv, hy⟩ := key i hi j f hj
    refine ⟨v, y, n, ?_, hy⟩
    rw [add_plain] at hv
    rw [← hv, Nat.add_assoc]

/-- .. a field that is an integer. -/
theorem int_of_field {k : IntKind} {t : TypeId} {n : Nat} {v : Value} {y : DataW H × List MemPlace} (ht : P.underlying t = some (.int k)) (h : DataW.trod enc P w base spare held n t [v] = some y) : ∃ z, v = .int k z ∧ (Lit.int k z).wf = true := by
  obtain ⟨z, hz, _, hw⟩ := DataW.trod_int ht h
  simp at hz
  exact ⟨z, hz, hw⟩

end
end Go.Proofs.Ybulkcita
