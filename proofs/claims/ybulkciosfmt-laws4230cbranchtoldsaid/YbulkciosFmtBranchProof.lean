/-
  The statement 'Rows.LawS4230CBranchToldSaid'.
-/
import Derived.Test.YbulkciosFmtCards
import Derived.Test.YbulkciosFmtBranch4
import Derived.Deep.Fields
import Derived.ProofKit
import Derived.OpenShut
import Derived.ShutString
import Derived.ChangeOld
import Derived.Below
import Derived.Stop.JoinedTold
import Derived.SevenToldRow
import Derived.SizedLaws
namespace Go.Proofs.YbulkciosFmt
open Go.ChangeShapes Go.WideShapes Go.ChangeAt Go.RowKit Go.Deep
open Go.Extern.Stop Go.Stop Go.Extern

theorem weightsAll_mem {H : Type} {P : Program} {e : TypeId} : ∀ {ds : List (DataW H)} {d : DataW H}, d ∈ ds → ∀ n ∈ d.weights P e, n ∈ DataW.weightsAll P e ds
  | d0 :: ds, d, hd, n, hn => by
    simp only [DataW.weightsAll, List.mem_append]
    rcases List.mem_cons.1 hd with rfl | h
    · exact Or.inl hn
    · exact Or.inr (weightsAll_mem h n hn)
  | [], _, hd, _, _ => by cases hd

/-- A slice of structs that came in, whose fields are one cell each: opened at every element and field, its weights told. -/
theorem open_structs_w {H : Type} {enc : TypeId × Value → H} {P : Program} {w : World} {base : Nat} {spare : Nat → Bool} {held : Bool} {t e : TypeId} {fs : Array Field} {fuel : Nat} {a : Option Addr} {len cap : Nat} {x : DataW H × List MemPlace} (ht : P.underlying t = some (.slice e)) (hs : P.underlying e = some (.struct fs))
    (hone : oneCellFields P fs = true) (hC : P.cellsOf e = fs.size) (hpos : 0 < fs.size) (h : DataW.trod enc P w base spare held fuel t [.slice a len cap] = some x) (hsz : ∀ n ∈ x.1.weights P t, n ≤ reachBytes) :
    len ≤ maxLen ∧ (0 < len → ∃ b off, a = some ⟨b, off, none⟩ ∧ ∀ i, i < len → ∀ j f, fs[j]? = some f → ∃ v y n, w.cell? ⟨b, off + i * fs.size + j, none⟩ = some v ∧ DataW.trod enc P w base spare held n f.type [v] = some y ∧ ∀ k ∈ y.1.weights P f.type, k ≤ reachBytes) := by
  rcases open_slice ht h with ⟨hcs, _⟩ | ⟨ad, len', cap', m, n, D, Pl, hcs, _, hl, hm, hmm, hx, hel⟩
  · simp at hcs
    obtain ⟨rfl, rfl, rfl⟩ := hcs
    exact ⟨Nat.zero_le _, fun h => absurd h (by omega)⟩
  simp at hcs
  obtain ⟨rfl, rfl, rfl⟩ := hcs
  subst hx
  refine ⟨Nat.le_trans hl hm, fun hlen => ?_⟩
  have hml : len ≤ m := by rw [hmm]; split <;> omega
  have hone' := hone_of hone
  have key : ∀ i, i < len → ∀ j f, fs[j]? = some f → ∃ v y n, w.cell? (ad.add (i * fs.size + j)) = some v ∧ DataW.trod enc P w base spare held n f.type [v] = some y ∧ ∀ k ∈ y.1.weights P f.type, k ≤ reachBytes := by
    intro i hi j f hj
    obtain ⟨cs', hc, htr⟩ := hel i (by omega)
    rw [hC] at hc
    obtain ⟨_, hlen', hcell⟩ := World.cells?_some hc
    obtain ⟨xs, n', _, hxe, _, hxl, hf⟩ := DataW.trod_struct hs htr
    have hlt : j < fs.size := (Array.getElem?_eq_some_iff.1 hj).1
    obtain ⟨ho, hc1⟩ := hone' j f hj
    have g := hf j f hj
    rw [ho, hc1] at g
    rw [take1_drop cs' j undef (by omega), List.getElem?_eq_getElem (by omega)] at g
    refine ⟨_, _, _, ?_, g, ?_⟩
    · have hcj := hcell j hlt
      rw [add_add, List.getElem?_eq_getElem (by omega)] at hcj
      rw [hcj]
      simp [List.getD, List.getElem?_eq_getElem (show j < cs'.length by omega)]
    · intro k hk
      have hD : D i = .agg (xs.map (·.1)) := by
        have := congrArg Prod.fst hxe
        exact this
      have hmem : D i ∈ (List.range len).map D := List.mem_map.2 ⟨i, by simpa using hi, rfl⟩
      refine hsz k ?_
      simp only [DataW.weights, ht, List.mem_cons, List.mem_append]
      refine Or.inr (Or.inl (weightsAll_mem hmem k ?_))
      rw [hD]
      simp only [DataW.weights, hs]
      exact DataW.weights_mem_each (j := j) (t := f.type) (d := xs[j].1) (by simp [hj]) (by simp [List.getElem?_eq_getElem (show j < xs.length by omega)]) k hk
  obtain ⟨b, off, spot⟩ := ad
  obtain ⟨v, _, _, h0, _⟩ := key 0 hlen 0 _ (Array.getElem?_eq_getElem hpos)
  have hspot : spot = none := by simpa [Addr.add] using World.cell?_spot h0
  subst hspot
  refine ⟨b, off, rfl, fun i hi j f hj => ?_⟩
  obtain ⟨v, y, n, hv, hy⟩ := key i hi j f hj
  refine ⟨v, y, n, ?_, hy⟩
  rw [add_plain] at hv
  rw [← hv, Nat.add_assoc]

theorem str_field {H : Type} {enc : TypeId × Value → H} {w : World} {base : Nat} {spare : Nat → Bool} {held : Bool} {n : Nat} {v : Value} {y : DataW H × List MemPlace} (h : DataW.trod enc Ybaf.prog w base spare held n 9 [v] = some y) (hsz : ∀ k ∈ y.1.weights Ybaf.prog 9, k ≤ reachBytes) : ∃ s : ByteArray, v = .string s ∧ s.size ≤ 140737488355328 := by
  obtain ⟨s, e, d, _⟩ := DataW.trod_string Ybaf.underlying9 h
  simp at e
  subst d
  have b := hsz s.data.toList.length (by simp [DataW.weights])
  have r := reachBytes_lt
  refine ⟨s, e, ?_⟩
  have : s.size = s.data.toList.length := by simp
  omega

def kidZero : Kid := ⟨false, false, 0, ⟨#[]⟩, ⟨#[]⟩, ⟨#[]⟩⟩

theorem open_kids {H : Type} {enc : TypeId × Value → H} {w : World} {base : Nat} {spare : Nat → Bool} {held : Bool} {fuel : Nat} {a : Option Addr} {len cap : Nat} {x : DataW H × List MemPlace}
    (h : DataW.trod enc Ybaf.prog w base spare held fuel 52 [.slice a len cap] = some x) (hsz : ∀ n ∈ x.1.weights Ybaf.prog 52, n ≤ reachBytes) :
    len ≤ maxLen ∧ (0 < len → ∃ b off Q, a = some ⟨b, off, none⟩ ∧ KidsAt w b off len Q) := by
  obtain ⟨hl, hp⟩ := open_structs_w Ybaf.underlying52 Ybaf.underlying54 (by kernel_rfl) (by kernel_rfl) (by decide) h hsz
  refine ⟨hl, fun h0 => ?_⟩
  obtain ⟨b, off, ha, hel⟩ := hp h0
  obtain ⟨R, hR⟩ := @Go.Deep.choose_lt Kid ⟨kidZero⟩ len (fun i q => w.cell? ⟨b, off + i * 6, none⟩ = some (.bool q.loaded) ∧ w.cell? ⟨b, off + i * 6 + 1, none⟩ = some (.bool q.dirty) ∧ w.cell? ⟨b, off + i * 6 + 2, none⟩ = some (.int .u64 q.old) ∧
    w.cell? ⟨b, off + i * 6 + 3, none⟩ = some (.string q.k) ∧ w.cell? ⟨b, off + i * 6 + 4, none⟩ = some (.string q.v) ∧ w.cell? ⟨b, off + i * 6 + 5, none⟩ = some (.string q.sep) ∧ q.Ok) (fun i hi => by
      obtain ⟨v0, _, _, c0, t0, _⟩ := hel i hi 0 _ rfl
      obtain ⟨v1, _, _, c1, t1, _⟩ := hel i hi 1 _ rfl
      obtain ⟨v2, _, _, c2, t2, _⟩ := hel i hi 2 _ rfl
      obtain ⟨v3, _, _, c3, t3, s3⟩ := hel i hi 3 _ rfl
      obtain ⟨v4, _, _, c4, t4, s4⟩ := hel i hi 4 _ rfl
      obtain ⟨v5, _, _, c5, t5, s5⟩ := hel i hi 5 _ rfl
      obtain ⟨z0, e0, _⟩ := DataW.trod_bool Ybaf.underlying4 t0
      obtain ⟨z1, e1, _⟩ := DataW.trod_bool Ybaf.underlying4 t1
      obtain ⟨z2, e2, _, w2⟩ := DataW.trod_int Ybaf.underlying23 t2
      obtain ⟨z3, e3, b3⟩ := str_field t3 s3
      obtain ⟨z4, e4, b4⟩ := str_field t4 s4
      obtain ⟨z5, e5, b5⟩ := str_field t5 s5
      simp at e0 e1 e2
      subst e0 e1 e2 e3 e4 e5
      refine ⟨⟨z0, z1, z2, z3, z4, z5⟩, c0, c1, c2, c3, c4, c5, ⟨b3, b4, b5, ?_⟩⟩
      simp [Lit.wf, IntKind.min, IntKind.max, IntKind.signed, IntKind.bits] at w2
      show 0 ≤ z2 ∧ z2 < 18446744073709551616
      omega)
  exact ⟨b, off, R, ha, fun i hi => (hR i hi).1, fun i hi => (hR i hi).2.1, fun i hi => (hR i hi).2.2.1, fun i hi => (hR i hi).2.2.2.1, fun i hi => (hR i hi).2.2.2.2.1, fun i hi => (hR i hi).2.2.2.2.2.1, fun i hi => (hR i hi).2.2.2.2.2.2⟩

set_option maxRecDepth 100000 in
theorem branch4_out (w : World) (a : Option Addr) (n c : Nat) (u v : Int) (h : n = 0 ∨ 256 < n) (hn : n ≤ 9223372036854775807) :
    Calls Ybaf.prog 4 #[.slice a n c, .int .u64 u, .int .u64 v] w fun e w' => e = .returned (.bool true) ∧ Below w.heap.size w w' := by
  rcases h with rfl | h
  · go_enter Ybaf.func4, Ybaf.ntmps4
    go_wp2
    go_ret
    exact ⟨rfl, Below.refl _ _⟩
  · have e0 : ((n : Int) == 0) = false := by simp; omega
    have e1 : decide (256 < (n : Int)) = true := by simp; omega
    go_enter Ybaf.func4, Ybaf.ntmps4
    go_wp2
    go_ret
    exact ⟨rfl, Below.refl _ _⟩

theorem Ybaf.own : ownKnob Ybaf.prog.godebug = none := by kernel_rfl
theorem Ybaf.laidOut : laidOutB Ybaf.pinned.checked.prog = true := by kernel_rfl
theorem Ybaf.stops : Ybaf.pinned.checked.prog.stops = ["fmt.errorf"] := by kernel_rfl
theorem Ybaf.stopKnobs : Ybaf.pinned.checked.prog.stopKnobs = [] := by kernel_rfl
theorem Ybaf.quiet (os : Os) : Stop.quiet Ybaf.pinned.checked.prog os := by
  intro k hk
  rw [Ybaf.stopKnobs] at hk
  cases hk

set_option maxRecDepth 100000 in
set_option maxHeartbeats 1000000 in
theorem branch_lifted (os : Os) (started : os.Started) (H : Type) (enc : TypeId × Value → H) :
    ReturnsInTold none {} Ybaf.checked os 4 .any Input.okWide ((OpenSpec.ofChange Rows.lawS4230CBranchSpec).preRow enc Ybaf.prog Ybaf.f4 [] false []) (fun F => ((OpenSpec.ofChange Rows.lawS4230CBranchSpec).at F).post enc Ybaf.prog Ybaf.f4 false true false false) (aloneAtReturn Ybaf.prog) nothingAlways := by
  refine returnsInTold_of_row (C := Ybaf.checked) (s := OpenSpec.ofChange Rows.lawS4230CBranchSpec) (by kernel_rfl) Ybaf.own started (by kernel_rfl) Ybaf.func4
    (OpenSpec.witness_stopped (enc := enc) (C := Ybaf.checked) false ⟨#[], #[.slice none 0 0, .int .u64 0, .int .u64 0], []⟩ 8 (by kernel_rfl) (by kernel_rfl) (by kernel_rfl) (by kernel_rfl)) ?_
  intro F W base args ds gs before _ hF hval0 hW _ _ hsz0 _ _
  have hval : ∀ (j : Nat) t v, Ybaf.f4.params[j]? = some t → args[j]? = some v → Value.okWide Ybaf.prog W .any base t v := hval0
  have hW' := hW
  obtain ⟨p, q, hA0, hV, rfl, hfz, hnd⟩ := hW
  have hA : DataW.TrodAll enc Ybaf.prog W 0 (fun _ => true) true Ybaf.f4.params.toList args.toList ds p := hA0
  have hsz : (DataW.weightsEach Ybaf.prog (Ybaf.f4.params.toList ++ (OpenSpec.ofChange Rows.lawS4230CBranchSpec).bare.plain.varTypes Ybaf.prog) (ds ++ gs)).all (· ≤ reachBytes) = true := hsz0
  rw [Ybaf.params4] at hA hval hsz
  obtain ⟨v0, vs0, d0, ds0, p0, q0, hargs, rfl, rfl, h0, r0⟩ := trodAll_cons hA
  obtain ⟨v1, vs1, d1, ds1, p1, q1, rfl, rfl, rfl, h1, r1⟩ := trodAll_cons r0
  obtain ⟨v2, vs2, d2, ds2, p2, q2, rfl, rfl, rfl, h2, r2⟩ := trodAll_cons r1
  obtain ⟨rfl, rfl, rfl⟩ := trodAll_nil r2
  obtain rfl : args = #[v0, v1, v2] := by cases args; simp_all
  obtain ⟨rfl, rfl⟩ := trodVars_none hV
  obtain ⟨a0, len0, cap0, rfl⟩ := okWide_slice Ybaf.underlying52 (hval 0 52 v0 rfl rfl)
  have k0 := h0
  have lt0 : ∀ x ∈ p0, x.block < W.heap.size := by obtain ⟨m, hm⟩ := k0; exact DataW.trod_lt m _ _ _ hm
  obtain ⟨a1, rfl, rfl, rfl, w1⟩ := open_int Ybaf.underlying23 (hval 1 23 v1 rfl rfl) h1
  obtain ⟨a2, rfl, rfl, rfl, w2⟩ := open_int Ybaf.underlying23 (hval 2 23 v2 rfl rfl) h2
  have hw0 : ∀ n ∈ d0.weights Ybaf.prog 52, n ≤ reachBytes := fun n hn => by
    have := List.all_eq_true.1 hsz n (DataW.weights_mem_each (j := 0) rfl rfl n hn)
    simpa using this
  obtain ⟨fuel, hf⟩ := h0
  obtain ⟨hl0, hop⟩ := open_kids hf hw0
  have hl : len0 ≤ 9223372036854775807 := by unfold maxLen at hl0; omega
  have walk : Calls Ybaf.prog 4 #[.slice a0 len0 cap0, .int .u64 a1, .int .u64 a2] W fun e w' => e = .returned (.bool true) ∧ Below W.heap.size W w' := by
    by_cases ho : len0 = 0 ∨ 256 < len0
    · exact branch4_out W a0 len0 cap0 a1 a2 ho hl
    · obtain ⟨b, off, Q, rfl, hQ⟩ := hop (by omega)
      refine branch4 F.told W hF b off len0 cap0 Q hQ a1 a2 ?_ (by omega) (by omega)
      simp [Lit.wf, IntKind.min, IntKind.max, IntKind.signed, IntKind.bits] at w1
      show 0 ≤ a1 ∧ a1 < 18446744073709551616
      omega
  clear hA0 hval0
  refine walk.mono fun e W' ⟨he, bel⟩ => ?_
  subst he
  exact ⟨_, rfl, _, _, _, [], _, [], hW', trodAll_mk1 (shut_bool Ybaf.underlying4 _), (trodAll_cons_mk (Below.trod Ybaf.laidOut (by kernel_rfl) (of_decide_eq_true (by kernel_rfl)) k0 bel lt0) (trodAll_cons_mk (shut_int Ybaf.underlying23 w1) (trodAll_cons_mk (shut_int Ybaf.underlying23 w2) trodAll_mk0))), rfl, bel.frame _, fun h => by cases h⟩

/-- THE STATEMENT. -/
theorem lawS4230CBranch_proved : Rows.LawS4230CBranchToldSaid :=
  Claim7.holds_of_told_any (c := Rows.lawS4230CBranchRow) 4 Ybaf.f4 "fmt.errorf" [] [] _ _ _ (by kernel_rfl) rfl rfl rfl Ybaf.laidOut (by kernel_rfl) rfl ⟨rfl, rfl, rfl, rfl, rfl, rfl, rfl⟩ rfl rfl (by kernel_rfl) (by kernel_rfl) Ybaf.func4 (by kernel_rfl)
    (of_decide_eq_true (by kernel_rfl)) (of_decide_eq_true (by kernel_rfl)) Ybaf.stops.symm rfl Ybaf.stopKnobs.symm (by kernel_rfl)
    (by kernel_rfl) (by kernel_rfl) (by kernel_rfl) (by kernel_rfl) (by kernel_rfl) (by kernel_rfl) (by kernel_rfl) (by kernel_rfl) (by kernel_rfl) rfl (by kernel_rfl) rfl rfl
    rfl rfl
    rfl (by kernel_rfl) (by kernel_rfl) (by kernel_rfl) (by decide) (by kernel_rfl)
    (OpenClaim.moreEntering_of (by kernel_rfl) (by kernel_rfl) (by kernel_rfl) (by kernel_rfl) (by kernel_rfl) (by kernel_rfl) (by kernel_rfl) (by kernel_rfl) (by kernel_rfl) (by kernel_rfl))
    ⟨_, WideRow.started_initial, Ybaf.quiet _⟩
    (fun os started _ H enc _ => branch_lifted os started H enc)
end Go.Proofs.YbulkciosFmt
