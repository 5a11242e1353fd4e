/-
  The statement 'Rows.LawS4227AVerifySaid'.
-/
import Derived.Test.YbulkcincRows
import Derived.Test.YbulkcincALaw
import Derived.Test.YbulkcincAArgs
import Derived.WalkKit
import Derived.ProofKit
import Derived.OpenShut
import Derived.ShutString
import Derived.ChangeOld
import Derived.Below
namespace Go.Proofs.Ybulkcinc
open Go.ChangeShapes Go.WideShapes Go.ChangeAt Go.RowKit

theorem own : ownKnob Yba.prog.godebug = none := by kernel_rfl
theorem laidOut : laidOutB Yba.prog = true := by kernel_rfl

set_option maxRecDepth 100000 in
set_option maxHeartbeats 1000000 in
theorem lawA3_long (hasB othS : Bool) (d0 m0 : Int) (a4 a5 a6 a7 : Option Addr) (n4 c4 n5 c5 n6 c6 n7 c7 : Nat) (w : World) (h : ¬ (n4 ≤ 300 ∧ n5 ≤ 300 ∧ n6 ≤ 300 ∧ n7 ≤ 300)) :
    Calls Yba.prog 3 #[.bool hasB, .bool othS, .int .u8 d0, .int .u8 m0, .slice a4 n4 c4, .slice a5 n5 c5, .slice a6 n6 c6, .slice a7 n7 c7] w fun e w' => e = .returned (.bool true) ∧ Below w.heap.size w w' := by
  by_cases q4 : n4 ≤ 300
  · by_cases q5 : n5 ≤ 300
    · by_cases q6 : n6 ≤ 300
      · have q7 : (300 : Int) < (n7 : Int) := by omega
        go_enter Yba.func3, Yba.ntmps3
        go_wp2_with fail
        go_ret
        exact ⟨rfl, Below.refl _ _⟩
      · have q6' : (300 : Int) < (n6 : Int) := by omega
        go_enter Yba.func3, Yba.ntmps3
        go_wp2_with fail
        go_ret
        exact ⟨rfl, Below.refl _ _⟩
    · have q5' : (300 : Int) < (n5 : Int) := by omega
      go_enter Yba.func3, Yba.ntmps3
      go_wp2_with fail
      go_ret
      exact ⟨rfl, Below.refl _ _⟩
  · have q4' : (300 : Int) < (n4 : Int) := by omega
    go_enter Yba.func3, Yba.ntmps3
    go_wp2_with fail
    go_ret
    exact ⟨rfl, Below.refl _ _⟩

set_option maxRecDepth 100000 in
theorem liftedAVerify (os : Os) (started : os.Started) (H : Type) (enc : TypeId × Value → H) :
    ReturnsInHanded {} Yba.checked os 3 .any (Rows.lawS4227AVerifySpec.pre6 enc Yba.prog Yba.f3 Rows.lawS4227AVerifyRow.domain false) (Rows.lawS4227AVerifySpec.post enc Yba.prog Yba.f3 false true false false) := by
  refine returnsInHanded_of_change (C := Yba.checked) own started (by kernel_rfl) Yba.func3
    (ChangeSpec.witness6 (enc := enc) (C := Yba.checked) false ⟨#[], #[.bool false, .bool false, .int .u8 0, .int .u8 0, .slice none 0 0, .slice none 0 0, .slice none 0 0, .slice none 0 0], []⟩ 8 (by kernel_rfl) (by kernel_rfl) (by kernel_rfl) (by kernel_rfl)) ?_
  intro W base args ds gs before hval0 hW hcnd _
  have hval : ∀ (j : Nat) t v, Yba.f3.params[j]? = some t → args[j]? = some v → Value.okWide Yba.prog W .any base t v := hval0
  have hW' := hW
  obtain ⟨p, q, hA0, hV, rfl, hfz, hnd⟩ := hW
  have hA : DataW.TrodAll enc Yba.prog W 0 (fun _ => true) true Yba.f3.params.toList args.toList ds p := hA0
  rw [Yba.params3] at hA hval
  obtain ⟨v0, vs0, d0, ds0, p0, q0, hargs, rfl, rfl, h0, r0⟩ := trodAll_cons hA
  obtain ⟨v1, vs1, d1, ds1, p1, q1, rfl, rfl, rfl, h1, r1⟩ := trodAll_cons r0
  obtain ⟨v2, vs2, d2, ds2, p2, q2, rfl, rfl, rfl, h2, r2⟩ := trodAll_cons r1
  obtain ⟨v3, vs3, d3, ds3, p3, q3, rfl, rfl, rfl, h3, r3⟩ := trodAll_cons r2
  obtain ⟨v4, vs4, d4, ds4, p4, q4, rfl, rfl, rfl, h4, r4⟩ := trodAll_cons r3
  obtain ⟨v5, vs5, d5, ds5, p5, q5, rfl, rfl, rfl, h5, r5⟩ := trodAll_cons r4
  obtain ⟨v6, vs6, d6, ds6, p6, q6, rfl, rfl, rfl, h6, r6⟩ := trodAll_cons r5
  obtain ⟨v7, vs7, d7, ds7, p7, q7, rfl, rfl, rfl, h7, r7⟩ := trodAll_cons r6
  obtain ⟨rfl, rfl, rfl⟩ := trodAll_nil r7
  obtain rfl : args = #[v0, v1, v2, v3, v4, v5, v6, v7] := by cases args; simp_all
  obtain ⟨rfl, rfl⟩ := trodVars_none hV
  obtain ⟨x0, rfl, rfl, rfl⟩ := open_bool Yba.underlying4 (hval 0 4 v0 rfl rfl) h0
  obtain ⟨x1, rfl, rfl, rfl⟩ := open_bool Yba.underlying4 (hval 1 4 v1 rfl rfl) h1
  obtain ⟨x2, rfl, rfl, rfl, wx2⟩ := open_int Yba.underlying5 (hval 2 5 v2 rfl rfl) h2
  obtain ⟨x3, rfl, rfl, rfl, wx3⟩ := open_int Yba.underlying5 (hval 3 5 v3 rfl rfl) h3
  obtain ⟨a4, len4, cap4, rfl⟩ := okWide_slice Yba.underlying22 (hval 4 22 v4 rfl rfl)
  obtain ⟨a5, len5, cap5, rfl⟩ := okWide_slice Yba.underlying22 (hval 5 22 v5 rfl rfl)
  obtain ⟨a6, len6, cap6, rfl⟩ := okWide_slice Yba.underlying23 (hval 6 23 v6 rfl rfl)
  obtain ⟨a7, len7, cap7, rfl⟩ := okWide_slice Yba.underlying24 (hval 7 24 v7 rfl rfl)
  have k4 := h4
  have lt4 : ∀ x ∈ p4, x.block < W.heap.size := by obtain ⟨m, hm⟩ := k4; exact DataW.trod_lt m _ _ _ hm
  have k5 := h5
  have lt5 : ∀ x ∈ p5, x.block < W.heap.size := by obtain ⟨m, hm⟩ := k5; exact DataW.trod_lt m _ _ _ hm
  have k6 := h6
  have lt6 : ∀ x ∈ p6, x.block < W.heap.size := by obtain ⟨m, hm⟩ := k6; exact DataW.trod_lt m _ _ _ hm
  have k7 := h7
  have lt7 : ∀ x ∈ p7, x.block < W.heap.size := by obtain ⟨m, hm⟩ := k7; exact DataW.trod_lt m _ _ _ hm
  obtain ⟨O4, hO4⟩ : ∃ O, AOrdsAt W a4 len4 O := by
    obtain ⟨fuel, hf⟩ := h4
    exact open_aords hf
  obtain ⟨O5, hO5⟩ : ∃ O, AOrdsAt W a5 len5 O := by
    obtain ⟨fuel, hf⟩ := h5
    exact open_aords hf
  obtain ⟨O6, hO6⟩ : ∃ O, GrpsAt W a6 len6 O := by
    obtain ⟨fuel, hf⟩ := h6
    exact open_grps hf
  obtain ⟨O7, hO7⟩ : ∃ O, AEvRow W a7 len7 O := by
    obtain ⟨fuel, hf⟩ := h7
    exact open_aevs hf
  clear hA0 hval0
  have main : Calls Yba.prog 3 #[.bool x0, .bool x1, .int .u8 x2, .int .u8 x3, .slice a4 len4 cap4, .slice a5 len5 cap5, .slice a6 len6 cap6, .slice a7 len7 cap7] W fun e w' => e = .returned (.bool true) ∧ Below W.heap.size W w' := by
    by_cases hn : len4 ≤ 300 ∧ len5 ≤ 300 ∧ len6 ≤ 300 ∧ len7 ≤ 300
    · exact lawA3 x0 x1 x2 x3 a4 a5 a6 a7 len4 cap4 len5 cap5 len6 cap6 len7 cap7 O4 O5 O6 O7 W hO4 hO5 hO6 hO7 hn.1 hn.2.1 hn.2.2.1 hn.2.2.2 (bounds_u8 wx2) (bounds_u8 wx3)
    · exact lawA3_long x0 x1 x2 x3 a4 a5 a6 a7 len4 cap4 len5 cap5 len6 cap6 len7 cap7 W hn
  refine main.mono fun e W' ⟨he, bel⟩ => ?_
  subst he
  exact ⟨_, rfl, _, _, _, [], _, [], hW', trodAll_mk1 (shut_bool Yba.underlying4 _), (trodAll_cons_mk (shut_bool Yba.underlying4 x0) (trodAll_cons_mk (shut_bool Yba.underlying4 x1) (trodAll_cons_mk (shut_int Yba.underlying5 wx2) (trodAll_cons_mk (shut_int Yba.underlying5 wx3) (trodAll_cons_mk (Below.trod laidOut (by kernel_rfl) (of_decide_eq_true (by kernel_rfl)) k4 bel lt4) (trodAll_cons_mk (Below.trod laidOut (by kernel_rfl) (of_decide_eq_true (by kernel_rfl)) k5 bel lt5) (trodAll_cons_mk (Below.trod laidOut (by kernel_rfl) (of_decide_eq_true (by kernel_rfl)) k6 bel lt6) (trodAll_cons_mk (Below.trod laidOut (by kernel_rfl) (of_decide_eq_true (by kernel_rfl)) k7 bel lt7) trodAll_mk0)))))))), rfl, bel.frame _, fun h => by cases h⟩

theorem overAVerify : Rows.lawS4227AVerifyRow.holds Yba.pinned (OpenSpec.ofChange Rows.lawS4227AVerifySpec) :=
  OpenClaim.holds_of_wide 3 Yba.f3 rfl rfl rfl rfl rfl rfl rfl ⟨rfl, rfl, rfl, rfl, rfl⟩ rfl rfl rfl rfl rfl (by kernel_rfl) Yba.func3 (by kernel_rfl)
    (of_decide_eq_true (by kernel_rfl)) (by unfold Func.isWrapper; first | (rw [if_pos (by decide +kernel)]; kernel_rfl) | (rw [if_neg (by decide +kernel)]; exact ⟨rfl, rfl⟩))
    (fun os started H enc _ => liftedAVerify os started H enc)

/-- THE STATEMENT. -/
theorem lawS4227AVerify_proved : Rows.LawS4227AVerifySaid := overAVerify
#print axioms lawS4227AVerify_proved
end Go.Proofs.Ybulkcinc
