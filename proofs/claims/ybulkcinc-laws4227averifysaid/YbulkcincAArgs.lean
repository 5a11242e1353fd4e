/-
  Opening the arguments of 'LawS4227AVerify'.
-/
import Derived.Test.YbulkcincAEvs
import Derived.Test.YbulkcincOpen
import Derived.ProofKit
import Derived.OpenShut
namespace Go.Proofs.Ybulkcinc
open Go.ChangeShapes Go.WideShapes Go.ChangeAt Go.RowKit

def ordZ : Ord := ⟨0, 0, 0, 0, 0⟩
def grpZ : Grp := ⟨0, 0⟩
def aevZ : AEv := ⟨0, 0, 0, 0, 0, 0, 0, 0⟩

theorem open_aords {H : Type} {enc : TypeId × Value → H} {w : World} {base : Nat} {spare : Nat → Bool} {held : Bool} {fuel : Nat} {a : Option Addr} {len cap : Nat} {x : DataW H × List MemPlace}
    (h : DataW.trod enc Yba.prog w base spare held fuel 22 [.slice a len cap] = some x) : ∃ O, AOrdsAt w a len O := by
  obtain ⟨hn, hp⟩ := open_structs Yba.underlying22 Yba.underlying74 (by kernel_rfl) (by kernel_rfl) (by decide) h
  rcases Nat.eq_zero_or_pos len with h0 | h0
  · exact ⟨fun _ => ordZ, fun h => absurd h (by omega)⟩
  obtain ⟨b, off, ha, hb, hel⟩ := hp h0
  obtain ⟨O, hO⟩ := @Go.Deep.choose_lt Ord ⟨ordZ⟩ len (fun i r => (w.cell? ⟨b, off + i * 5, none⟩ = some (.int .i64 r.price) ∧ w.cell? ⟨b, off + i * 5 + 1, none⟩ = some (.int .i64 r.qty) ∧ w.cell? ⟨b, off + i * 5 + 2, none⟩ = some (.int .i64 r.ex) ∧ w.cell? ⟨b, off + i * 5 + 3, none⟩ = some (.int .i64 r.pr) ∧ w.cell? ⟨b, off + i * 5 + 4, none⟩ = some (.int .i64 r.re)) ∧ True) (fun i hi => by
      obtain ⟨v0, _, _, c0, t0⟩ := hel i hi 0 _ rfl
      obtain ⟨v1, _, _, c1, t1⟩ := hel i hi 1 _ rfl
      obtain ⟨v2, _, _, c2, t2⟩ := hel i hi 2 _ rfl
      obtain ⟨v3, _, _, c3, t3⟩ := hel i hi 3 _ rfl
      obtain ⟨v4, _, _, c4, t4⟩ := hel i hi 4 _ rfl
      obtain ⟨z0, rfl, w0⟩ := int_of_field Yba.underlying2 t0
      obtain ⟨z1, rfl, w1⟩ := int_of_field Yba.underlying2 t1
      obtain ⟨z2, rfl, w2⟩ := int_of_field Yba.underlying2 t2
      obtain ⟨z3, rfl, w3⟩ := int_of_field Yba.underlying2 t3
      obtain ⟨z4, rfl, w4⟩ := int_of_field Yba.underlying2 t4
      exact ⟨⟨z0, z1, z2, z3, z4⟩, ⟨c0, c1, c2, c3, c4⟩, trivial⟩)
  exact ⟨O, fun _ => ⟨b, off, ha, hb, fun i hi => (hO i hi).1⟩⟩

theorem open_grps {H : Type} {enc : TypeId × Value → H} {w : World} {base : Nat} {spare : Nat → Bool} {held : Bool} {fuel : Nat} {a : Option Addr} {len cap : Nat} {x : DataW H × List MemPlace}
    (h : DataW.trod enc Yba.prog w base spare held fuel 23 [.slice a len cap] = some x) : ∃ O, GrpsAt w a len O := by
  obtain ⟨hn, hp⟩ := open_structs Yba.underlying23 Yba.underlying33 (by kernel_rfl) (by kernel_rfl) (by decide) h
  rcases Nat.eq_zero_or_pos len with h0 | h0
  · exact ⟨fun _ => grpZ, fun h => absurd h (by omega), fun i hi => absurd hi (by omega)⟩
  obtain ⟨b, off, ha, hb, hel⟩ := hp h0
  obtain ⟨O, hO⟩ := @Go.Deep.choose_lt Grp ⟨grpZ⟩ len (fun i r => (w.cell? ⟨b, off + i * 2, none⟩ = some (.int .u8 r.acct) ∧ w.cell? ⟨b, off + i * 2 + 1, none⟩ = some (.int .u8 r.group)) ∧ ((0 ≤ r.acct ∧ r.acct ≤ 255) ∧ (0 ≤ r.group ∧ r.group ≤ 255))) (fun i hi => by
      obtain ⟨v0, _, _, c0, t0⟩ := hel i hi 0 _ rfl
      obtain ⟨v1, _, _, c1, t1⟩ := hel i hi 1 _ rfl
      obtain ⟨z0, rfl, w0⟩ := int_of_field Yba.underlying5 t0
      obtain ⟨z1, rfl, w1⟩ := int_of_field Yba.underlying5 t1
      exact ⟨⟨z0, z1⟩, ⟨c0, c1⟩, bounds_u8 w0, bounds_u8 w1⟩)
  exact ⟨O, fun _ => ⟨b, off, ha, hb, fun i hi => (hO i hi).1⟩, fun i hi => (hO i hi).2⟩

theorem open_aevs {H : Type} {enc : TypeId × Value → H} {w : World} {base : Nat} {spare : Nat → Bool} {held : Bool} {fuel : Nat} {a : Option Addr} {len cap : Nat} {x : DataW H × List MemPlace}
    (h : DataW.trod enc Yba.prog w base spare held fuel 24 [.slice a len cap] = some x) : ∃ O, AEvRow w a len O := by
  obtain ⟨hn, hp⟩ := open_structs Yba.underlying24 Yba.underlying50 (by kernel_rfl) (by kernel_rfl) (by decide) h
  rcases Nat.eq_zero_or_pos len with h0 | h0
  · exact ⟨fun _ => aevZ, fun h => absurd h (by omega), fun i hi => absurd hi (by omega)⟩
  obtain ⟨b, off, ha, hb, hel⟩ := hp h0
  obtain ⟨O, hO⟩ := @Go.Deep.choose_lt AEv ⟨aevZ⟩ len (fun i r => (w.cell? ⟨b, off + i * 8, none⟩ = some (.int .u8 r.kind) ∧ w.cell? ⟨b, off + i * 8 + 1, none⟩ = some (.int .u8 r.maker) ∧ w.cell? ⟨b, off + i * 8 + 2, none⟩ = some (.int .u8 r.taker) ∧ w.cell? ⟨b, off + i * 8 + 3, none⟩ = some (.int .u8 r.status) ∧ w.cell? ⟨b, off + i * 8 + 4, none⟩ = some (.int .i64 r.qty) ∧ w.cell? ⟨b, off + i * 8 + 5, none⟩ = some (.int .i64 r.ex) ∧ w.cell? ⟨b, off + i * 8 + 6, none⟩ = some (.int .i64 r.pr) ∧ w.cell? ⟨b, off + i * 8 + 7, none⟩ = some (.int .i64 r.re)) ∧ ((0 ≤ r.kind ∧ r.kind ≤ 255) ∧ (0 ≤ r.maker ∧ r.maker ≤ 255) ∧ (0 ≤ r.taker ∧ r.taker ≤ 255) ∧ (0 ≤ r.status ∧ r.status ≤ 255))) (fun i hi => by
      obtain ⟨v0, _, _, c0, t0⟩ := hel i hi 0 _ rfl
      obtain ⟨v1, _, _, c1, t1⟩ := hel i hi 1 _ rfl
      obtain ⟨v2, _, _, c2, t2⟩ := hel i hi 2 _ rfl
      obtain ⟨v3, _, _, c3, t3⟩ := hel i hi 3 _ rfl
      obtain ⟨v4, _, _, c4, t4⟩ := hel i hi 4 _ rfl
      obtain ⟨v5, _, _, c5, t5⟩ := hel i hi 5 _ rfl
      obtain ⟨v6, _, _, c6, t6⟩ := hel i hi 6 _ rfl
      obtain ⟨v7, _, _, c7, t7⟩ := hel i hi 7 _ rfl
      obtain ⟨z0, rfl, w0⟩ := int_of_field Yba.underlying5 t0
      obtain ⟨z1, rfl, w1⟩ := int_of_field Yba.underlying5 t1
      obtain ⟨z2, rfl, w2⟩ := int_of_field Yba.underlying5 t2
      obtain ⟨z3, rfl, w3⟩ := int_of_field Yba.underlying5 t3
      obtain ⟨z4, rfl, w4⟩ := int_of_field Yba.underlying2 t4
      obtain ⟨z5, rfl, w5⟩ := int_of_field Yba.underlying2 t5
      obtain ⟨z6, rfl, w6⟩ := int_of_field Yba.underlying2 t6
      obtain ⟨z7, rfl, w7⟩ := int_of_field Yba.underlying2 t7
      exact ⟨⟨z0, z1, z2, z3, z4, z5, z6, z7⟩, ⟨c0, c1, c2, c3, c4, c5, c6, c7⟩, bounds_u8 w0, bounds_u8 w1, bounds_u8 w2, bounds_u8 w3⟩)
  exact ⟨O, fun _ => ⟨b, off, ha, hb, fun i hi => (hO i hi).1⟩, fun i hi => (hO i hi).2⟩

end Go.Proofs.Ybulkcinc
