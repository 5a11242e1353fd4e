/-
  The statement 'Rows.LawS4230CLeafToldSaid'.
-/
import Derived.Test.YbulkciosFmtCards
import Derived.Test.YbulkciosFmtLeaf
import Derived.Deep.SlicePairs
import Derived.ProofKit
import Derived.OpenShut
import Derived.ShutString
import Derived.ChangeOld
import Derived.Below
import Derived.Stop.JoinedTold
import Derived.SevenToldRow
import Derived.SizedLaws
namespace Go.Proofs.YbulkciosFmt
open Go.ChangeShapes Go.WideShapes Go.ChangeAt Go.RowKit Go.Deep
open Go.Extern.Stop Go.Stop Go.Extern

theorem weightsAll_mem {H : Type} {P : Program} {e : TypeId} : ∀ {ds : List (DataW H)} {d : DataW H}, d ∈ ds → ∀ n ∈ d.weights P e, n ∈ DataW.weightsAll P e ds
  | d0 :: ds, d, hd, n, hn => by
    simp only [DataW.weightsAll, List.mem_append]
    rcases List.mem_cons.1 hd with rfl | h
    · exact Or.inl hn
    · exact Or.inr (weightsAll_mem h n hn)
  | [], _, hd, _, _ => by cases hd

theorem open_pairs {H : Type} {enc : TypeId × Value → H} {w : World} {base : Nat} {spare : Nat → Bool} {held : Bool} {fuel : Nat} {a : Option Addr} {len cap : Nat} {x : DataW H × List MemPlace}
    (h : DataW.trod enc Ybaf.prog w base spare held fuel 22 [.slice a len cap] = some x) (hsz : ∀ n ∈ x.1.weights Ybaf.prog 22, n ≤ reachBytes) :
    len ≤ maxLen ∧ ∃ p off K V, (0 < len → a = some ⟨p, off, none⟩) ∧ PairsAt w p off len K V := by
  rcases open_slice_pairs Ybaf.underlying22 Ybaf.underlying28 (by kernel_rfl) rfl rfl (by kernel_rfl) (by kernel_rfl) h with ⟨hcs, _⟩ | ⟨ad, len', cap', m, n, V0, V1, D0, D1, P0, P1, hcs, _, hl, hm, hmm, hx, hel⟩
  · simp at hcs
    obtain ⟨rfl, rfl, rfl⟩ := hcs
    exact ⟨Nat.zero_le _, 0, 0, fun _ => ⟨#[]⟩, fun _ => ⟨#[]⟩, fun h => absurd h (by omega), ⟨fun i hi => absurd hi (by omega), fun i hi => absurd hi (by omega), fun i hi => absurd hi (by omega), fun i hi => absurd hi (by omega)⟩⟩
  · simp at hcs
    obtain ⟨rfl, rfl, rfl⟩ := hcs
    subst hx
    have hml : len ≤ m := by rw [hmm]; split <;> omega
    have key : ∀ i, i < len → ∃ r : ByteArray × ByteArray, w.cell? (ad.add (i * 2)) = some (.string r.1) ∧ w.cell? (ad.add (i * 2 + 1)) = some (.string r.2) ∧ r.1.size ≤ 140737488355328 ∧ r.2.size ≤ 140737488355328 := by
      intro i hi
      obtain ⟨c0, c1, t0, t1⟩ := hel i (by omega)
      obtain ⟨s0, e0, d0, _⟩ := DataW.trod_string Ybaf.underlying9 t0
      obtain ⟨s1, e1, d1, _⟩ := DataW.trod_string Ybaf.underlying9 t1
      simp at e0 e1
      simp only [Prod.mk.injEq] at d0 d1
      rw [e0] at c0
      rw [e1] at c1
      have hmem : DataW.agg [D0 i, D1 i] ∈ (List.range len).map (fun i => DataW.agg [D0 i, D1 i]) := List.mem_map.2 ⟨i, by simpa using hi, rfl⟩
      have hin : ∀ n ∈ (DataW.agg [D0 i, D1 i]).weights Ybaf.prog 28, n ≤ reachBytes := fun n hn => hsz n (by
        simp only [DataW.weights, Ybaf.underlying22, List.mem_cons, List.mem_append]
        exact Or.inr (Or.inl (weightsAll_mem hmem n hn)))
      rw [d0.1, d1.1] at hin
      have b0 := hin s0.data.toList.length (by simp [DataW.weights, Ybaf.underlying28, DataW.weightsEach])
      have b1 := hin s1.data.toList.length (by simp [DataW.weights, Ybaf.underlying28, DataW.weightsEach])
      have r := reachBytes_lt
      refine ⟨(s0, s1), c0, c1, ?_, ?_⟩
      · have : s0.size = s0.data.toList.length := by simp
        show s0.size ≤ _
        omega
      · have : s1.size = s1.data.toList.length := by simp
        show s1.size ≤ _
        omega
    rcases Nat.eq_zero_or_pos len with h0 | h0
    · subst h0
      exact ⟨Nat.zero_le _, 0, 0, fun _ => ⟨#[]⟩, fun _ => ⟨#[]⟩, fun h => absurd h (by omega), ⟨fun i hi => absurd hi (by omega), fun i hi => absurd hi (by omega), fun i hi => absurd hi (by omega), fun i hi => absurd hi (by omega)⟩⟩
    · obtain ⟨R, hR⟩ := @Go.Deep.choose_lt (ByteArray × ByteArray) ⟨(⟨#[]⟩, ⟨#[]⟩)⟩ len _ key
      obtain ⟨b, off, spot⟩ := ad
      have hspot : spot = none := by simpa [Addr.add] using World.cell?_spot (hR 0 h0).1
      subst hspot
      refine ⟨Nat.le_trans hl hm, b, off, fun i => (R i).1, fun i => (R i).2, fun _ => rfl, ⟨fun i hi => ?_, fun i hi => ?_, fun i hi => (hR i hi).2.2.1, fun i hi => (hR i hi).2.2.2⟩⟩
      · have := (hR i hi).1
        rw [add_plain] at this
        exact this
      · have := (hR i hi).2.1
        rw [add_plain] at this
        rw [← this, Nat.add_assoc]

theorem Ybaf.own : ownKnob Ybaf.prog.godebug = none := by kernel_rfl
theorem Ybaf.laidOut : laidOutB Ybaf.pinned.checked.prog = true := by kernel_rfl
theorem Ybaf.stops : Ybaf.pinned.checked.prog.stops = ["fmt.errorf"] := by kernel_rfl
theorem Ybaf.stopKnobs : Ybaf.pinned.checked.prog.stopKnobs = [] := by kernel_rfl
theorem Ybaf.quiet (os : Os) : Stop.quiet Ybaf.pinned.checked.prog os := by
  intro k hk
  rw [Ybaf.stopKnobs] at hk
  cases hk

theorem bounds_i8 {z : Int} (h : (Lit.int .i8 z).wf = true) : -128 ≤ z ∧ z ≤ 127 := by
  simp [Lit.wf, IntKind.min, IntKind.max, IntKind.signed, IntKind.bits] at h
  omega

set_option maxRecDepth 100000 in
set_option maxHeartbeats 1000000 in
theorem leaf_lifted (os : Os) (started : os.Started) (H : Type) (enc : TypeId × Value → H) :
    ReturnsInTold none {} Ybaf.checked os 3 .any Input.okWide ((OpenSpec.ofChange Rows.lawS4230CLeafSpec).preRow enc Ybaf.prog Ybaf.f3 [] false []) (fun F => ((OpenSpec.ofChange Rows.lawS4230CLeafSpec).at F).post enc Ybaf.prog Ybaf.f3 false true false false) (aloneAtReturn Ybaf.prog) nothingAlways := by
  refine returnsInTold_of_row (C := Ybaf.checked) (s := OpenSpec.ofChange Rows.lawS4230CLeafSpec) (by kernel_rfl) Ybaf.own started (by kernel_rfl) Ybaf.func3
    (OpenSpec.witness_stopped (enc := enc) (C := Ybaf.checked) false ⟨#[], #[.slice none 0 0, .int .u64 0, .bool false, .int .u64 0, .bool false, .bool false, .int .i8 0], []⟩ 8 (by kernel_rfl) (by kernel_rfl) (by kernel_rfl) (by kernel_rfl)) ?_
  intro F W base args ds gs before _ hF hval0 hW _ _ hsz0 _ _
  have hval : ∀ (j : Nat) t v, Ybaf.f3.params[j]? = some t → args[j]? = some v → Value.okWide Ybaf.prog W .any base t v := hval0
  have hW' := hW
  obtain ⟨p, q, hA0, hV, rfl, hfz, hnd⟩ := hW
  have hA : DataW.TrodAll enc Ybaf.prog W 0 (fun _ => true) true Ybaf.f3.params.toList args.toList ds p := hA0
  have hsz : (DataW.weightsEach Ybaf.prog (Ybaf.f3.params.toList ++ (OpenSpec.ofChange Rows.lawS4230CLeafSpec).bare.plain.varTypes Ybaf.prog) (ds ++ gs)).all (· ≤ reachBytes) = true := hsz0
  rw [Ybaf.params3] at hA hval hsz
  obtain ⟨v0, vs0, d0, ds0, p0, q0, hargs, rfl, rfl, h0, r0⟩ := trodAll_cons hA
  obtain ⟨v1, vs1, d1, ds1, p1, q1, rfl, rfl, rfl, h1, r1⟩ := trodAll_cons r0
  obtain ⟨v2, vs2, d2, ds2, p2, q2, rfl, rfl, rfl, h2, r2⟩ := trodAll_cons r1
  obtain ⟨v3, vs3, d3, ds3, p3, q3, rfl, rfl, rfl, h3, r3⟩ := trodAll_cons r2
  obtain ⟨v4, vs4, d4, ds4, p4, q4, rfl, rfl, rfl, h4, r4⟩ := trodAll_cons r3
  obtain ⟨v5, vs5, d5, ds5, p5, q5, rfl, rfl, rfl, h5, r5⟩ := trodAll_cons r4
  obtain ⟨v6, vs6, d6, ds6, p6, q6, rfl, rfl, rfl, h6, r6⟩ := trodAll_cons r5
  obtain ⟨rfl, rfl, rfl⟩ := trodAll_nil r6
  obtain rfl : args = #[v0, v1, v2, v3, v4, v5, v6] := by cases args; simp_all
  obtain ⟨rfl, rfl⟩ := trodVars_none hV
  obtain ⟨a0, len0, cap0, rfl⟩ := okWide_slice Ybaf.underlying22 (hval 0 22 v0 rfl rfl)
  have k0 := h0
  have lt0 : ∀ x ∈ p0, x.block < W.heap.size := by obtain ⟨m, hm⟩ := k0; exact DataW.trod_lt m _ _ _ hm
  obtain ⟨a1, rfl, rfl, rfl, w1⟩ := open_int Ybaf.underlying23 (hval 1 23 v1 rfl rfl) h1
  obtain ⟨a2, rfl, rfl, rfl⟩ := open_bool Ybaf.underlying4 (hval 2 4 v2 rfl rfl) h2
  obtain ⟨a3, rfl, rfl, rfl, w3⟩ := open_int Ybaf.underlying23 (hval 3 23 v3 rfl rfl) h3
  obtain ⟨a4, rfl, rfl, rfl⟩ := open_bool Ybaf.underlying4 (hval 4 4 v4 rfl rfl) h4
  obtain ⟨a5, rfl, rfl, rfl⟩ := open_bool Ybaf.underlying4 (hval 5 4 v5 rfl rfl) h5
  obtain ⟨a6, rfl, rfl, rfl, w6⟩ := open_int Ybaf.underlying24 (hval 6 24 v6 rfl rfl) h6
  have hw0 : ∀ n ∈ d0.weights Ybaf.prog 22, n ≤ reachBytes := fun n hn => by
    have := List.all_eq_true.1 hsz n (DataW.weights_mem_each (j := 0) rfl rfl n hn)
    simpa using this
  obtain ⟨fuel, hf⟩ := h0
  obtain ⟨hl0, b, off, K, V, hao, hP⟩ := open_pairs hf hw0
  have hl : len0 ≤ 9223372036854775807 := by unfold maxLen at hl0; omega
  have bi := bounds_i8 w6
  have walk := leaf3 F.told W hF a0 b off len0 cap0 K V hao hP a1 a2 a3 a4 a5 a6 bi.1 bi.2 hl
  clear hA0 hval0
  refine walk.mono fun e W' ⟨he, bel⟩ => ?_
  subst he
  exact ⟨_, rfl, _, _, _, [], _, [], hW', trodAll_mk1 (shut_bool Ybaf.underlying4 _), (trodAll_cons_mk (Below.trod Ybaf.laidOut (by kernel_rfl) (of_decide_eq_true (by kernel_rfl)) k0 bel lt0) (trodAll_cons_mk (shut_int Ybaf.underlying23 w1) (trodAll_cons_mk (shut_bool Ybaf.underlying4 _) (trodAll_cons_mk (shut_int Ybaf.underlying23 w3) (trodAll_cons_mk (shut_bool Ybaf.underlying4 _) (trodAll_cons_mk (shut_bool Ybaf.underlying4 _) (trodAll_cons_mk (shut_int Ybaf.underlying24 w6) trodAll_mk0))))))), rfl, bel.frame _, fun h => by cases h⟩

/-- THE STATEMENT. -/
theorem lawS4230CLeaf_proved : Rows.LawS4230CLeafToldSaid :=
  Claim7.holds_of_told_any (c := Rows.lawS4230CLeafRow) 3 Ybaf.f3 "fmt.errorf" [] [] _ _ _ (by kernel_rfl) rfl rfl rfl Ybaf.laidOut (by kernel_rfl) rfl ⟨rfl, rfl, rfl, rfl, rfl, rfl, rfl⟩ rfl rfl (by kernel_rfl) (by kernel_rfl) Ybaf.func3 (by kernel_rfl)
    (of_decide_eq_true (by kernel_rfl)) (of_decide_eq_true (by kernel_rfl)) Ybaf.stops.symm rfl Ybaf.stopKnobs.symm (by kernel_rfl)
    (by kernel_rfl) (by kernel_rfl) (by kernel_rfl) (by kernel_rfl) (by kernel_rfl) (by kernel_rfl) (by kernel_rfl) (by kernel_rfl) (by kernel_rfl) rfl (by kernel_rfl) rfl rfl
    rfl rfl
    rfl (by kernel_rfl) (by kernel_rfl) (by kernel_rfl) (by decide) (by kernel_rfl)
    (OpenClaim.moreEntering_of (by kernel_rfl) (by kernel_rfl) (by kernel_rfl) (by kernel_rfl) (by kernel_rfl) (by kernel_rfl) (by kernel_rfl) (by kernel_rfl) (by kernel_rfl) (by kernel_rfl))
    ⟨_, WideRow.started_initial, Ybaf.quiet _⟩
    (fun os started _ H enc _ => leaf_lifted os started H enc)
end Go.Proofs.YbulkciosFmt
