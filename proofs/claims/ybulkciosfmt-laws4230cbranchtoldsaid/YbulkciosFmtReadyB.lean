/-
  The branch is built: all is laid for 'write'.
-/
import Derived.Test.YbulkciosFmtCons
namespace Go.Proofs.YbulkciosFmt
open Go.RowKit Go.Extern.Stop Go.Stop Go.Extern

theorem KidAt.mono {w : World} {b b' nd : Nat} {q : Kid} (h : KidAt w b q nd) (hb : b ≤ b') : KidAt w b' q nd := by
  obtain ⟨kr, vr, kp, vp, kc, vc, l1, l2, l3, r1, r2, r3, b1, b2⟩ := h
  exact ⟨kr, vr, kp, vp, kc, vc, by omega, by omega, by omega, r1, r2, r3, ⟨by have := b1.lt; omega, b1.type, b1.at_⟩, ⟨by have := b2.lt; omega, b2.type, b2.at_⟩⟩

theorem own_shape' {w : World} {b e : Nat} {v : Value} {n : Nat} {xs : List Value} (h : w.ownsRow b e 1 v n xs) : ∃ a c, v = .slice a n c := by
  obtain ⟨_, ⟨rfl, rfl⟩ | ⟨g', cap, c, rfl, _⟩⟩ := h
  · exact ⟨_, _, rfl⟩
  · exact ⟨_, _, rfl⟩

theorem new5t (w : World) (bp bt : Nat) (hbt : bt = w.heap.size) : Calls Ybaf.prog 5 #[.iface 35 (.pointer (some ⟨bp, 0, none⟩)), .int .u64 0, .pointer none] w fun e w' => e = .returned (.pointer (some ⟨bt, 0, none⟩)) ∧ RowAt w' bt 48 (trRow bp (.slice none 0 0)) ∧ w.grownBy w' none := by
  subst hbt
  exact new5 w bp

theorem ready_b {w wr w1 w2 w3 : World} {n N kb nb bn c : Nat} {Q : Nat → Kid} {nd : Nat → Nat} {pid base : Int} {so : Option Addr} {S : Nat → List Int} (h : Cons w wr n n n N kb nb bn Q nd pid (.slice so N c)) (hS : S = fun j => bs (Q (j + 1)).sep) (psz : Nat) (hpsz : psz = bsz S N)
    (g1 : wr.grownBy w1 (some bn)) (g2 : w1.grownBy w2 (some bn)) (r2 : RowAt w2 bn 34 (nodeRow pid true false (.slice so N c) (.slice none 0 0) (.slice (some ⟨kb, 0, none⟩) n n) (.slice (some ⟨nb, 0, none⟩) n n) psz))
    (r3 : RowAt w3 (w2.heap.size + 1) 48 (trRow w2.heap.size (.slice none 0 0)))
    (g3 : (w2.alloc (.cells #[.int .u64 base, .bool false, .bool false, .int .i64 0, .slice none 0 0, .slice none 0 0, .int .i64 0] 37)).grownBy w3 none) :
    WInv w.heap.size w3 w3 w3.heap.size w2.heap.size (w2.heap.size + 1) bn kb nb (parRow pid true so N c kb nb n (bsz S N)) Q base nd n 0 ∧ Places w.heap.size w3.heap.size w2.heap.size (w2.heap.size + 1) bn kb nb nd Q n ∧ Below w.heap.size w w3 ∧
    ∃ sb, (0 < N → so = some ⟨sb, 0, none⟩) ∧ ∀ w', Ft w.heap.size w3.heap.size w3 w' → Bufs w' sb N S := by
  subst hpsz
  have gP := grown_alloc w2 (.cells #[.int .u64 base, .bool false, .bool false, .int .i64 0, .slice none 0 0, .slice none 0 0, .int .i64 0] 37)
  have rP : RowAt (w2.alloc (.cells #[.int .u64 base, .bool false, .bool false, .int .i64 0, .slice none 0 0, .slice none 0 0, .int .i64 0] 37)) w2.heap.size 37 (pgRow base false false 0 (.slice none 0 0) (.slice none 0 0)) := heap_alloc_new w2 _
  generalize w2.alloc (.cells #[.int .u64 base, .bool false, .bool false, .int .i64 0, .slice none 0 0, .slice none 0 0, .int .i64 0] 37) = wP at *
  have z1 := g1.size
  have z2 := g2.size
  have z3 := gP.size
  have z4 := g3.size
  have z5 := h.bel.size
  have lt3 := r3.lt
  have gb : w2.grownBy w3 none := grown_two gP g3 (.inl rfl) (.inl rfl)
  have ga : wr.grownBy w3 (some bn) := grown_two (grown_two g1 g2 (.inr rfl) (.inr rfl)) gb (.inr rfl) (.inl rfl)
  have hf : Fr wr.heap.size [bn] wr w3 := (Fr.refl _ _ _).grown ga (Nat.le_refl _) (fun k hk => by cases hk; exact .inr (by simp))
  have hbnlt := h.par.lt
  have tk := h.kids.type
  have tn := h.nodes.type
  have tp := h.par.type
  have rk : RowAt w3 kb 23 (curO Q n n) := h.kids.grown ga (by simpa using TypeAt.ne tk tp (by decide))
  have rn : RowAt w3 nb 29 (ptrsO Q nd n n) := h.nodes.grown ga (by simpa using TypeAt.ne tn tp (by decide))
  have hkid : ∀ j, j < n → (Q j).loaded = true → KidAt w3 w3.heap.size (Q j) (nd j) := fun j hj hl => by
    obtain ⟨a, _, c⟩ := h.left j hj hl
    refine (a.kid.fr hf fun k hk => ?_).mono (by omega)
    obtain rfl : k = bn := by simpa using hk
    exact ⟨fun e => c e.symm, 34, tp, by decide, by decide⟩
  refine ⟨⟨⟨[], _, _, _, ⟨rP.grown g3 (by simp), r3, ⟨World.ownsRow_nil _ _ _ _, World.ownsRow_nil _ _ _ _, World.ownsRow_nil _ _ _ _, .inl rfl, fun p hp => by simp at hp, Nat.le_refl _⟩, by omega, lt3⟩, rfl⟩, r2.grown gb (by simp), ?_, ?_, fun j _ hj hl => hkid j hj hl, Ft.refl _ _ _, fun j hj => absurd hj (by omega)⟩, ⟨by omega, ?_, ?_, h.lbn, h.lkb, by omega, by omega, fun j hj hl => (h.left j hj hl).2, h.apart⟩, h.bel.grown ga z5 (fun k hk => by cases hk; exact h.lbn), ?_⟩
  · rw [← curO_all]; exact rk
  · rw [← ptrsO_all]; exact rn
  · have := rk.lt; omega
  · have := rn.lt; omega
  · obtain ⟨xs, s1, s2⟩ := h.seps
    rcases Nat.eq_zero_or_pos N with h0 | h0
    · exact ⟨0, fun h => absurd h (by omega), fun w' _ j hj => absurd hj (by omega)⟩
    · obtain ⟨m, rfl⟩ : ∃ m, N = m + 1 := ⟨N - 1, by omega⟩
      obtain ⟨g, c', e⟩ := own_slice s1
      cases e
      refine ⟨g, fun _ => rfl, fun w' hft j hj => ?_⟩
      obtain ⟨p, c2, e1, e2⟩ := s2 j hj
      have tg := own_type s1 g rfl
      have hgl := (s1.lt g rfl).2
      have eg : w3.heap[g]? = wr.heap[g]? := ga.block g hgl (by simpa using TypeAt.ne tg tp (by decide))
      have tg3 : TypeAt w3 g 26 := by
        obtain ⟨x, y, hxy⟩ := tg
        exact ⟨x, y, eg.trans hxy⟩
      have e2p := e2.type
      have hpl := e2.lt
      have ep : w3.heap[p]? = wr.heap[p]? := ga.block p hpl (by simpa using TypeAt.ne e2p tp (by decide))
      have tp3 : TypeAt w3 p 5 := by
        obtain ⟨x, y, hxy⟩ := e2p
        exact ⟨x, y, ep.trans hxy⟩
      have fg := hft.block g (by omega) (.inr ⟨26, tg3, by decide, by decide, by decide, by decide⟩)
      have fp := hft.block p (by omega) (.inr ⟨5, tp3, by decide, by decide, by decide, by decide⟩)
      rw [hS]
      refine ⟨p, c2, ?_, fun i y hy => ?_⟩
      · rw [World.cell?_of_block (w := wr) (a := ⟨g, j, none⟩) (fg.trans eg)]
        have := s1.cells (g := g) rfl j _ e1
        have e3 : (⟨g, 0, none⟩ : Addr).add j = ⟨g, j, none⟩ := by unfold Addr.add; split <;> simp_all
        rw [e3] at this
        exact this
      · rw [World.cell?_of_block (w := wr) (a := ⟨p, i, none⟩) (fp.trans ep)]
        exact e2.at_ i y hy

end Go.Proofs.YbulkciosFmt
