/-
  The statement 'Rows.LawS4227BEventsSaid'.
-/
import Derived.Test.YbulkcincRows
import Derived.Test.YbulkcincBEvents
import Derived.Test.YbulkcincOpen
import Derived.WalkKit
import Derived.ProofKit
import Derived.OpenShut
import Derived.ShutString
import Derived.ChangeOld
import Derived.Below
namespace Go.Proofs.Ybulkcinc
open Go.ChangeShapes Go.WideShapes Go.ChangeAt Go.RowKit
open Go.ChangeMaps (open_string shut_string)

def repZero : Rep := ⟨0, 0, 0, 0, 0, 0⟩

theorem open_reps {H : Type} {enc : TypeId × Value → H} {w : World} {base : Nat} {spare : Nat → Bool} {held : Bool} {fuel : Nat} {a : Option Addr} {len cap : Nat} {x : DataW H × List MemPlace}
    (h : DataW.trod enc Yba.prog w base spare held fuel 79 [.slice a len cap] = some x) : ∃ R, RepsAt w a len R := by
  obtain ⟨hn, hp⟩ := open_structs Yba.underlying79 Yba.underlying107 (by kernel_rfl) (by kernel_rfl) (by decide) h
  rcases Nat.eq_zero_or_pos len with h0 | h0
  · exact ⟨fun _ => repZero, fun h => absurd h (by omega), fun i hi => absurd hi (by omega)⟩
  obtain ⟨b, off, ha, hb, hel⟩ := hp h0
  obtain ⟨R, hR⟩ := @Go.Deep.choose_lt Rep ⟨repZero⟩ len (fun i r => (w.cell? ⟨b, off + i * 6, none⟩ = some (.int .u8 r.kind) ∧ w.cell? ⟨b, off + i * 6 + 1, none⟩ = some (.int .u8 r.status) ∧
    w.cell? ⟨b, off + i * 6 + 2, none⟩ = some (.int .i64 r.qty) ∧ w.cell? ⟨b, off + i * 6 + 3, none⟩ = some (.int .i64 r.ex) ∧
    w.cell? ⟨b, off + i * 6 + 4, none⟩ = some (.int .i64 r.pr) ∧ w.cell? ⟨b, off + i * 6 + 5, none⟩ = some (.int .i64 r.re)) ∧ r.fits) (fun i hi => by
      obtain ⟨v0, _, _, c0, t0⟩ := hel i hi 0 _ rfl
      obtain ⟨v1, _, _, c1, t1⟩ := hel i hi 1 _ rfl
      obtain ⟨v2, _, _, c2, t2⟩ := hel i hi 2 _ rfl
      obtain ⟨v3, _, _, c3, t3⟩ := hel i hi 3 _ rfl
      obtain ⟨v4, _, _, c4, t4⟩ := hel i hi 4 _ rfl
      obtain ⟨v5, _, _, c5, t5⟩ := hel i hi 5 _ rfl
      obtain ⟨z0, rfl, w0⟩ := int_of_field Yba.underlying5 t0
      obtain ⟨z1, rfl, w1⟩ := int_of_field Yba.underlying5 t1
      obtain ⟨z2, rfl, _⟩ := int_of_field Yba.underlying2 t2
      obtain ⟨z3, rfl, _⟩ := int_of_field Yba.underlying2 t3
      obtain ⟨z4, rfl, _⟩ := int_of_field Yba.underlying2 t4
      obtain ⟨z5, rfl, _⟩ := int_of_field Yba.underlying2 t5
      exact ⟨⟨z0, z1, z2, z3, z4, z5⟩, ⟨c0, c1, c2, c3, c4, c5⟩, bounds_u8 w0, bounds_u8 w1⟩)
  exact ⟨R, fun _ => ⟨b, off, ha, hb, fun i hi => (hR i hi).1⟩, fun i hi => (hR i hi).2⟩

theorem own : ownKnob Yba.prog.godebug = none := by kernel_rfl
theorem laidOut : laidOutB Yba.prog = true := by kernel_rfl

set_option maxRecDepth 100000 in
theorem liftedBEvents (os : Os) (started : os.Started) (H : Type) (enc : TypeId × Value → H) :
    ReturnsInHanded {} Yba.checked os 4 .any (Rows.lawS4227BEventsSpec.pre6 enc Yba.prog Yba.f4 Rows.lawS4227BEventsRow.domain false) (Rows.lawS4227BEventsSpec.post enc Yba.prog Yba.f4 false true false false) := by
  refine returnsInHanded_of_change (C := Yba.checked) own started (by kernel_rfl) Yba.func4
    (ChangeSpec.witness6 (enc := enc) (C := Yba.checked) false ⟨#[], #[.string ⟨#[]⟩, .slice none 0 0], []⟩ 8 (by kernel_rfl) (by kernel_rfl) (by kernel_rfl) (by kernel_rfl)) ?_
  intro W base args ds gs before hval0 hW hcnd _
  have hval : ∀ (j : Nat) t v, Yba.f4.params[j]? = some t → args[j]? = some v → Value.okWide Yba.prog W .any base t v := hval0
  have hW' := hW
  obtain ⟨p, q, hA0, hV, rfl, hfz, hnd⟩ := hW
  have hA : DataW.TrodAll enc Yba.prog W 0 (fun _ => true) true Yba.f4.params.toList args.toList ds p := hA0
  rw [Yba.params4] at hA hval
  obtain ⟨v0, vs0, d0, ds0, p0, q0, hargs, rfl, rfl, h0, r0⟩ := trodAll_cons hA
  obtain ⟨v1, vs1, d1, ds1, p1, q1, rfl, rfl, rfl, h1, r1⟩ := trodAll_cons r0
  obtain ⟨rfl, rfl, rfl⟩ := trodAll_nil r1
  obtain rfl : args = #[v0, v1] := by cases args; simp_all
  obtain ⟨rfl, rfl⟩ := trodVars_none hV
  obtain ⟨s0, rfl, rfl, rfl, ws0⟩ := open_string Yba.underlying9 (hval 0 9 v0 rfl rfl) h0
  obtain ⟨a1, len1, cap1, rfl⟩ := okWide_slice Yba.underlying79 (hval 1 79 v1 rfl rfl)
  have k1 := h1
  have lt1 : ∀ x ∈ p1, x.block < W.heap.size := by obtain ⟨m, hm⟩ := k1; exact DataW.trod_lt m _ _ _ hm
  obtain ⟨R, hR⟩ : ∃ R, RepsAt W a1 len1 R := by
    obtain ⟨fuel, hf⟩ := h1
    exact open_reps hf
  clear hA0 hval0
  refine (lawB4 s0 a1 len1 cap1 R W hR).mono fun e W' ⟨he, bel⟩ => ?_
  subst he
  exact ⟨_, rfl, _, _, _, [], _, [], hW', trodAll_mk1 (shut_bool Yba.underlying4 _), (trodAll_cons_mk (shut_string Yba.underlying9 ws0) (trodAll_cons_mk (Below.trod laidOut (by kernel_rfl) (of_decide_eq_true (by kernel_rfl)) k1 bel lt1) trodAll_mk0)), rfl, bel.frame _, fun h => by cases h⟩

theorem overBEvents : Rows.lawS4227BEventsRow.holds Yba.pinned (OpenSpec.ofChange Rows.lawS4227BEventsSpec) :=
  OpenClaim.holds_of_wide 4 Yba.f4 rfl rfl rfl rfl rfl rfl rfl ⟨rfl, rfl, rfl, rfl, rfl⟩ rfl rfl rfl rfl rfl (by kernel_rfl) Yba.func4 (by kernel_rfl)
    (of_decide_eq_true (by kernel_rfl)) (by unfold Func.isWrapper; first | (rw [if_pos (by decide +kernel)]; kernel_rfl) | (rw [if_neg (by decide +kernel)]; exact ⟨rfl, rfl⟩))
    (fun os started H enc _ => liftedBEvents os started H enc)

/-- THE STATEMENT. -/
theorem lawS4227BEvents_proved : Rows.LawS4227BEventsSaid := overBEvents
#print axioms lawS4227BEvents_proved
end Go.Proofs.Ybulkcinc
