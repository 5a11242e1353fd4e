/-
  The statement 'Rows.LawS4238CModelSaid'.
-/
import Derived.Test.YbulkcitaRows
import Derived.Test.YbulkcitaLaw
import Derived.Test.YbulkcitaOpen
import Derived.WalkKit
import Derived.ProofKit
import Derived.OpenShut
import Derived.ShutString
import Derived.ChangeOld
import Derived.Below
namespace Go.Proofs.Ybulkcita
open Go.ChangeShapes Go.WideShapes Go.ChangeAt Go.RowKit

set_option maxRecDepth 100000 in
theorem law3_out (w : World) (a : Option Addr) (n c : Nat) (v : Int) (h : n = 0 ∨ 1024 < n) :
    Calls Yba.prog 3 #[.slice a n c, .int .u64 v] w fun e w' => e = .returned (.bool true) ∧ Below w.heap.size w w' := by
  rcases h with rfl | h
  · go_enter Yba.func3, Yba.ntmps3
    go_wp2
    go_ret
    exact ⟨rfl, Below.refl _ _⟩
  · have e0 : ((n : Int) == 0) = false := by simp; omega
    have e1 : decide (1024 < (n : Int)) = true := by simp; omega
    go_enter Yba.func3, Yba.ntmps3
    go_wp2
    go_ret
    exact ⟨rfl, Below.refl _ _⟩

def gateZero : Gate := ⟨0, 0, 0, 0, 0⟩

theorem nat_u8 {z : Int} (h : (Lit.int .u8 z).wf = true) : ∃ k : Nat, z = k ∧ k < 256 := by
  simp [Lit.wf, IntKind.min, IntKind.max, IntKind.signed, IntKind.bits] at h
  exact ⟨z.toNat, by omega, by omega⟩
theorem nat_u32 {z : Int} (h : (Lit.int .u32 z).wf = true) : ∃ k : Nat, z = k ∧ k < 4294967296 := by
  simp [Lit.wf, IntKind.min, IntKind.max, IntKind.signed, IntKind.bits] at h
  exact ⟨z.toNat, by omega, by omega⟩
theorem nat_u64 {z : Int} (h : (Lit.int .u64 z).wf = true) : ∃ k : Nat, z = k ∧ k < 18446744073709551616 := by
  simp [Lit.wf, IntKind.min, IntKind.max, IntKind.signed, IntKind.bits] at h
  exact ⟨z.toNat, by omega, by omega⟩

theorem open_gates {H : Type} {enc : TypeId × Value → H} {w : World} {base : Nat} {spare : Nat → Bool} {held : Bool} {fuel : Nat} {a : Option Addr} {len cap : Nat} {x : DataW H × List MemPlace}
    (h : DataW.trod enc Yba.prog w base spare held fuel 22 [.slice a len cap] = some x) (h0 : 0 < len) : ∃ b off G, a = some ⟨b, off, none⟩ ∧ GatesAt w b off len G := by
  obtain ⟨_, hp⟩ := open_structs Yba.underlying22 Yba.underlying31 (by kernel_rfl) (by kernel_rfl) (by decide) h
  obtain ⟨b, off, ha, hb, hel⟩ := hp h0
  obtain ⟨R, hR⟩ := @Go.Deep.choose_lt Gate ⟨gateZero⟩ len (fun i r => (w.cell? ⟨b, off + i * 5, none⟩ = some (.int .u8 r.k) ∧ w.cell? ⟨b, off + i * 5 + 1, none⟩ = some (.int .u32 r.a) ∧
    w.cell? ⟨b, off + i * 5 + 2, none⟩ = some (.int .u32 r.b) ∧ w.cell? ⟨b, off + i * 5 + 3, none⟩ = some (.int .u32 r.c) ∧ w.cell? ⟨b, off + i * 5 + 4, none⟩ = some (.int .i8 r.v)) ∧ r.fits) (fun i hi => by
      obtain ⟨v0, _, _, c0, t0⟩ := hel i hi 0 _ rfl
      obtain ⟨v1, _, _, c1, t1⟩ := hel i hi 1 _ rfl
      obtain ⟨v2, _, _, c2, t2⟩ := hel i hi 2 _ rfl
      obtain ⟨v3, _, _, c3, t3⟩ := hel i hi 3 _ rfl
      obtain ⟨v4, _, _, c4, t4⟩ := hel i hi 4 _ rfl
      obtain ⟨z0, rfl, w0⟩ := int_of_field Yba.underlying5 t0
      obtain ⟨z1, rfl, w1⟩ := int_of_field Yba.underlying24 t1
      obtain ⟨z2, rfl, w2⟩ := int_of_field Yba.underlying24 t2
      obtain ⟨z3, rfl, w3⟩ := int_of_field Yba.underlying24 t3
      obtain ⟨z4, rfl, _⟩ := int_of_field Yba.underlying29 t4
      obtain ⟨k0, rfl, l0⟩ := nat_u8 w0
      obtain ⟨k1, rfl, l1⟩ := nat_u32 w1
      obtain ⟨k2, rfl, l2⟩ := nat_u32 w2
      obtain ⟨k3, rfl, l3⟩ := nat_u32 w3
      exact ⟨⟨k0, k1, k2, k3, z4⟩, ⟨c0, c1, c2, c3, c4⟩, ⟨l0, l1, l2, l3⟩⟩)
  exact ⟨b, off, R, ha, hb, fun i hi => (hR i hi).1.1, fun i hi => (hR i hi).1.2.1, fun i hi => (hR i hi).1.2.2.1, fun i hi => (hR i hi).1.2.2.2.1, fun i hi => (hR i hi).1.2.2.2.2, fun i hi => (hR i hi).2⟩

theorem own : ownKnob Yba.prog.godebug = none := by kernel_rfl
theorem laidOut : laidOutB Yba.prog = true := by kernel_rfl

set_option maxRecDepth 100000 in
theorem liftedModel (os : Os) (started : os.Started) (H : Type) (enc : TypeId × Value → H) :
    ReturnsInHanded {} Yba.checked os 3 .any (Rows.lawS4238CModelSpec.pre6 enc Yba.prog Yba.f3 Rows.lawS4238CModelRow.domain false) (Rows.lawS4238CModelSpec.post enc Yba.prog Yba.f3 false true false false) := by
  refine returnsInHanded_of_change (C := Yba.checked) own started (by kernel_rfl) Yba.func3
    (ChangeSpec.witness6 (enc := enc) (C := Yba.checked) false ⟨#[], #[.slice none 0 0, .int .u64 0], []⟩ 8 (by kernel_rfl) (by kernel_rfl) (by kernel_rfl) (by kernel_rfl)) ?_
  intro W base args ds gs before hval0 hW hcnd _
  have hval : ∀ (j : Nat) t v, Yba.f3.params[j]? = some t → args[j]? = some v → Value.okWide Yba.prog W .any base t v := hval0
  have hW' := hW
  obtain ⟨p, q, hA0, hV, rfl, hfz, hnd⟩ := hW
  have hA : DataW.TrodAll enc Yba.prog W 0 (fun _ => true) true Yba.f3.params.toList args.toList ds p := hA0
  rw [Yba.params3] at hA hval
  obtain ⟨v0, vs0, d0, ds0, p0, q0, hargs, rfl, rfl, h0, r0⟩ := trodAll_cons hA
  obtain ⟨v1, vs1, d1, ds1, p1, q1, rfl, rfl, rfl, h1, r1⟩ := trodAll_cons r0
  obtain ⟨rfl, rfl, rfl⟩ := trodAll_nil r1
  obtain rfl : args = #[v0, v1] := by cases args; simp_all
  obtain ⟨rfl, rfl⟩ := trodVars_none hV
  obtain ⟨a0, len0, cap0, rfl⟩ := okWide_slice Yba.underlying22 (hval 0 22 v0 rfl rfl)
  have k0 := h0
  have lt0 : ∀ x ∈ p0, x.block < W.heap.size := by obtain ⟨m, hm⟩ := k0; exact DataW.trod_lt m _ _ _ hm
  obtain ⟨a1, rfl, rfl, rfl, w1⟩ := open_int Yba.underlying23 (hval 1 23 v1 rfl rfl) h1
  have walk : Calls Yba.prog 3 #[.slice a0 len0 cap0, .int .u64 a1] W fun e w' => e = .returned (.bool true) ∧ Below W.heap.size W w' := by
    by_cases hl : len0 = 0 ∨ 1024 < len0
    · exact law3_out W a0 len0 cap0 a1 hl
    · obtain ⟨fuel, hf⟩ := h0
      obtain ⟨b, off, G, rfl, hG⟩ := open_gates hf (by omega)
      obtain ⟨k1, rfl, l1⟩ := nat_u64 w1
      exact law3 W b off len0 cap0 k1 G hG (by omega) (by omega) l1
  clear hA0 hval0
  refine walk.mono fun e W' ⟨he, bel⟩ => ?_
  subst he
  exact ⟨_, rfl, _, _, _, [], _, [], hW', trodAll_mk1 (shut_bool Yba.underlying4 _), (trodAll_cons_mk (Below.trod laidOut (by kernel_rfl) (of_decide_eq_true (by kernel_rfl)) k0 bel lt0) (trodAll_cons_mk (shut_int Yba.underlying23 w1) trodAll_mk0)), rfl, bel.frame _, fun h => by cases h⟩

theorem overModel : Rows.lawS4238CModelRow.holds Yba.pinned (OpenSpec.ofChange Rows.lawS4238CModelSpec) :=
  OpenClaim.holds_of_wide 3 Yba.f3 rfl rfl rfl rfl rfl rfl rfl ⟨rfl, rfl, rfl, rfl, rfl⟩ rfl rfl rfl rfl rfl (by kernel_rfl) Yba.func3 (by kernel_rfl)
    (of_decide_eq_true (by kernel_rfl)) (by unfold Func.isWrapper; first | (rw [if_pos (by decide +kernel)]; kernel_rfl) | (rw [if_neg (by decide +kernel)]; exact ⟨rfl, rfl⟩))
    (fun os started H enc _ => liftedModel os started H enc)

/-- THE STATEMENT. -/
theorem lawS4238CModel_proved : Rows.LawS4238CModelSaid := overModel
end Go.Proofs.Ybulkcita
