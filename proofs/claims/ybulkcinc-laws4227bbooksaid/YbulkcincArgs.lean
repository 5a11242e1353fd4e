/-
  Opening the drawn events and the book law's drawn orders out of the arguments; two closed facts of the program.
-/
import Derived.Test.YbulkcincHolds
import Derived.Test.YbulkcincOpen
import Derived.Test.YbulkcincRows
import Derived.ProofKit
import Derived.OpenShut
namespace Go.Proofs.Ybulkcinc
open Go.ChangeShapes Go.WideShapes Go.ChangeAt Go.RowKit

def repZero : Rep := ⟨0, 0, 0, 0, 0, 0⟩

theorem open_reps {H : Type} {enc : TypeId × Value → H} {w : World} {base : Nat} {spare : Nat → Bool} {held : Bool} {fuel : Nat} {a : Option Addr} {len cap : Nat} {x : DataW H × List MemPlace}
    (h : DataW.trod enc Yba.prog w base spare held fuel 79 [.slice a len cap] = some x) : ∃ R, RepsAt w a len R := by
  obtain ⟨hn, hp⟩ := open_structs Yba.underlying79 Yba.underlying107 (by kernel_rfl) (by kernel_rfl) (by decide) h
  rcases Nat.eq_zero_or_pos len with h0 | h0
  · exact ⟨fun _ => repZero, fun h => absurd h (by omega), fun i hi => absurd hi (by omega)⟩
  obtain ⟨b, off, ha, hb, hel⟩ := hp h0
  obtain ⟨R, hR⟩ := @Go.Deep.choose_lt Rep ⟨repZero⟩ len (fun i r => (w.cell? ⟨b, off + i * 6, none⟩ = some (.int .u8 r.kind) ∧ w.cell? ⟨b, off + i * 6 + 1, none⟩ = some (.int .u8 r.status) ∧
    w.cell? ⟨b, off + i * 6 + 2, none⟩ = some (.int .i64 r.qty) ∧ w.cell? ⟨b, off + i * 6 + 3, none⟩ = some (.int .i64 r.ex) ∧
    w.cell? ⟨b, off + i * 6 + 4, none⟩ = some (.int .i64 r.pr) ∧ w.cell? ⟨b, off + i * 6 + 5, none⟩ = some (.int .i64 r.re)) ∧ r.fits) (fun i hi => by
      obtain ⟨v0, _, _, c0, t0⟩ := hel i hi 0 _ rfl
      obtain ⟨v1, _, _, c1, t1⟩ := hel i hi 1 _ rfl
      obtain ⟨v2, _, _, c2, t2⟩ := hel i hi 2 _ rfl
      obtain ⟨v3, _, _, c3, t3⟩ := hel i hi 3 _ rfl
      obtain ⟨v4, _, _, c4, t4⟩ := hel i hi 4 _ rfl
      obtain ⟨v5, _, _, c5, t5⟩ := hel i hi 5 _ rfl
      obtain ⟨z0, rfl, w0⟩ := int_of_field Yba.underlying5 t0
      obtain ⟨z1, rfl, w1⟩ := int_of_field Yba.underlying5 t1
      obtain ⟨z2, rfl, _⟩ := int_of_field Yba.underlying2 t2
      obtain ⟨z3, rfl, _⟩ := int_of_field Yba.underlying2 t3
      obtain ⟨z4, rfl, _⟩ := int_of_field Yba.underlying2 t4
      obtain ⟨z5, rfl, _⟩ := int_of_field Yba.underlying2 t5
      exact ⟨⟨z0, z1, z2, z3, z4, z5⟩, ⟨c0, c1, c2, c3, c4, c5⟩, bounds_u8 w0, bounds_u8 w1⟩)
  exact ⟨R, fun _ => ⟨b, off, ha, hb, fun i hi => (hR i hi).1⟩, fun i hi => (hR i hi).2⟩

theorem own : ownKnob Yba.prog.godebug = none := by kernel_rfl
theorem laidOut : laidOutB Yba.prog = true := by kernel_rfl

def ordZero : Ord := ⟨0, 0, 0, 0, 0⟩

theorem open_ords {H : Type} {enc : TypeId × Value → H} {w : World} {base : Nat} {spare : Nat → Bool} {held : Bool} {fuel : Nat} {a : Option Addr} {len cap : Nat} {x : DataW H × List MemPlace}
    (h : DataW.trod enc Yba.prog w base spare held fuel 85 [.slice a len cap] = some x) : ∃ O, OrdsAt w a len O := by
  obtain ⟨hn, hp⟩ := open_structs Yba.underlying85 Yba.underlying88 (by kernel_rfl) (by kernel_rfl) (by decide) h
  rcases Nat.eq_zero_or_pos len with h0 | h0
  · exact ⟨fun _ => ordZero, fun h => absurd h (by omega), fun i hi => absurd hi (by omega)⟩
  obtain ⟨b, off, ha, hb, hel⟩ := hp h0
  obtain ⟨O, hO⟩ := @Go.Deep.choose_lt Ord ⟨ordZero⟩ len (fun i r => (w.cell? ⟨b, off + i * 5, none⟩ = some (.int .i32 r.price) ∧ w.cell? ⟨b, off + i * 5 + 1, none⟩ = some (.int .i64 r.qty) ∧
    w.cell? ⟨b, off + i * 5 + 2, none⟩ = some (.int .i64 r.ex) ∧ w.cell? ⟨b, off + i * 5 + 3, none⟩ = some (.int .i64 r.pr) ∧
    w.cell? ⟨b, off + i * 5 + 4, none⟩ = some (.int .i64 r.re)) ∧ (-2147483648 ≤ r.price ∧ r.price ≤ 2147483647)) (fun i hi => by
      obtain ⟨v0, _, _, c0, t0⟩ := hel i hi 0 _ rfl
      obtain ⟨v1, _, _, c1, t1⟩ := hel i hi 1 _ rfl
      obtain ⟨v2, _, _, c2, t2⟩ := hel i hi 2 _ rfl
      obtain ⟨v3, _, _, c3, t3⟩ := hel i hi 3 _ rfl
      obtain ⟨v4, _, _, c4, t4⟩ := hel i hi 4 _ rfl
      obtain ⟨z0, rfl, w0⟩ := int_of_field Yba.underlying21 t0
      obtain ⟨z1, rfl, _⟩ := int_of_field Yba.underlying2 t1
      obtain ⟨z2, rfl, _⟩ := int_of_field Yba.underlying2 t2
      obtain ⟨z3, rfl, _⟩ := int_of_field Yba.underlying2 t3
      obtain ⟨z4, rfl, _⟩ := int_of_field Yba.underlying2 t4
      exact ⟨⟨z0, z1, z2, z3, z4⟩, ⟨c0, c1, c2, c3, c4⟩, bounds_i32 w0⟩)
  exact ⟨O, fun _ => ⟨b, off, ha, hb, fun i hi => (hO i hi).1⟩, fun i hi => (hO i hi).2⟩

end Go.Proofs.Ybulkcinc
