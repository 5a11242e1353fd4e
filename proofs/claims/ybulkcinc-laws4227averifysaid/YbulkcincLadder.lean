/-
  '(*ladder).verify' (number 22): a walk over the chains of a ladder's levels. The plain side first.
-/
import Derived.Test.YbulkcincVbook
import Derived.Deep.LoopGhost
namespace Go.Proofs.Ybulkcinc
open Go.RowKit

/-- A resting order. -/
structure Ord where
  price : Int
  qty : Int
  ex : Int
  pr : Int
  re : Int

/-- It keeps the quantity rule. -/
def okOrd (o : Ord) : Bool := decide (0 < o.re) && (wrap64 (wrap64 (o.ex + o.pr) + o.re) == o.qty)

/-- What 'verify' holds on its way. -/
structure VS where
  best : Int
  held : Bool
  hold : Bool

def better (sg : Int) (s : VS) (o : Ord) : Bool := !s.held || decide (wrap64 (sg * s.best) < wrap64 (sg * o.price))

def vstep (sg : Int) (s : VS) (o : Ord) : VS := ⟨if better sg s o then o.price else s.best, true, s.hold && okOrd o⟩

def vfold (sg : Int) (s : VS) (l : List Ord) : VS := l.foldl (vstep sg) s

def flatTo (C : Nat → List Ord) : Nat → List Ord
  | 0 => []
  | n + 1 => flatTo C n ++ C n

/-- A chain of orders in memory. -/
def ChainAt (w : World) : List Ord → Option Addr → Prop
  | [], a => a = none
  | o :: r, a => ∃ b nx, a = some ⟨b, 0, none⟩ ∧ w.cell? ⟨b, 6, none⟩ = some (.int .i64 o.price) ∧ w.cell? ⟨b, 7, none⟩ = some (.int .i64 o.qty) ∧ w.cell? ⟨b, 8, none⟩ = some (.int .i64 o.ex) ∧
      w.cell? ⟨b, 9, none⟩ = some (.int .i64 o.pr) ∧ w.cell? ⟨b, 10, none⟩ = some (.int .i64 o.re) ∧ w.cell? ⟨b, 15, none⟩ = some (.pointer nx) ∧ ChainAt w r nx

/-- The levels' chains. -/
def LevelsAt (w : World) (a : Option Addr) (n : Nat) (C : Nat → List Ord) : Prop :=
  ∀ i, i < n → ∃ g vb hd, a = some ⟨g, 0, none⟩ ∧ w.cell? ⟨g, i, none⟩ = some (.pointer (some ⟨vb, 0, none⟩)) ∧ w.cell? ⟨vb, 1, none⟩ = some (.pointer hd) ∧ ChainAt w (C i) hd

set_option maxRecDepth 100000 in
set_option maxHeartbeats 4000000 in
theorem verify22 (lb lo : Nat) (sg : Int) (a : Option Addr) (n c : Nat) (C : Nat → List Ord) (w : World) (h0 : w.cell? ⟨lb, lo, none⟩ = some (.slice a n c)) (h2 : w.cell? ⟨lb, lo + 2, none⟩ = some (.int .i64 sg))
    (hl : LevelsAt w a n C) (hn : n ≤ 1024) :
    Calls Yba.prog 22 #[.pointer (some ⟨lb, lo, none⟩)] w fun e w' =>
      e = .returned (.tuple #[.int .i64 (vfold sg ⟨0, false, true⟩ (flatTo C n)).best, .bool (vfold sg ⟨0, false, true⟩ (flatTo C n)).held, .bool (vfold sg ⟨0, false, true⟩ (flatTo C n)).hold]) ∧ ∃ m, w' = w.drewN m := by
  go_enter Yba.func22, Yba.ntmps22
  go_wp2
  go_loopg [2, 3, 4, 13] n (fun gk v2 v3 v4 i wr => ∃ (k m : Nat) (s : VS), k + gk = n ∧ i = .int .i64 k ∧ v2 = .int .i64 s.best ∧ v3 = .bool s.held ∧ v4 = .bool s.hold ∧ Hid (s = vfold sg ⟨0, false, true⟩ (flatTo C k)) ∧ wr = w.drewN m)
  case atStart => exact ⟨0, 0, ⟨0, false, true⟩, by omega, rfl, rfl, rfl, rfl, rfl, rfl⟩
  case round =>
    obtain ⟨k, m, s, hk, rfl, rfl, rfl, rfl, HS, rfl⟩ := hrel
    by_cases hlt : k < n
    · obtain ⟨g, vb, hd, rfl, hg, hv, hch⟩ := hl k hlt
      go_wp2
      obtain ⟨G, hG⟩ : ∃ G, G = gk := ⟨_, rfl⟩
      subst hG
      go_loopg [2, 3, 4, 7] (C k).length (fun gk v2 v3 v4 v7 wr => ∃ (m : Nat) (s1 : VS) (r : List Ord) (a : Option Addr), gk = r.length ∧ v7 = .pointer a ∧ v2 = .int .i64 s1.best ∧ v3 = .bool s1.held ∧ v4 = .bool s1.hold ∧
          Hid (vfold sg s1 r = vfold sg s (C k)) ∧ ChainAt w r a ∧ wr = w.drewN m)
      case atStart => exact ⟨m, s, C k, hd, rfl, rfl, rfl, rfl, rfl, rfl, hch, rfl⟩
      case round =>
        obtain ⟨m1, ⟨best, held, hold⟩, r, a1, rfl, rfl, rfl, rfl, rfl, HF, hc1, rfl⟩ := hrel
        clear hch hg hv
        match r, hc1, HF with
        | [], hc1, HF =>
          obtain rfl : a1 = none := hc1
          have HN : Hid ((⟨best, held, hold⟩ : VS) = vfold sg ⟨0, false, true⟩ (flatTo C (k + 1))) := by
            show _ = _
            have e1 := HF.out
            have e2 := HS.out
            simp only [vfold, List.foldl_nil] at e1
            rw [e1, e2]
            simp [vfold, flatTo, List.foldl_append]
          go_wp2
          go_roundg (G - 1)
          case rel => exact ⟨k + 1, m1, ⟨best, held, hold⟩, by omega, by go_num, rfl, rfl, rfl, HN, rfl⟩
          case measure => omega
        | o :: r, hc1, HF =>
          obtain ⟨b, nx, rfl, c6, c7, c8, c9, c10, c15, hr⟩ := hc1
          cases held with
          | false =>
            by_cases h10 : o.re ≤ 0
            · have d10 : ¬ 0 < o.re := by omega
              have HF' : Hid (vfold sg (vstep sg ⟨best, false, hold⟩ o) r = vfold sg s (C k)) := HF.out
              have E2 : Hid (o.price = (vstep sg ⟨best, false, hold⟩ o).best) := by show _ = _; simp [vstep, better]
              have E4 : Hid (false = (vstep sg ⟨best, false, hold⟩ o).hold) := by show _ = _; simp [vstep, okOrd, d10]
              go_wp2
              go_quiet (fail)
              go_wp2
              go_quiet (fail)
              go_wp2
              go_roundg r.length
              case rel => exact ⟨_, vstep sg ⟨best, false, hold⟩ o, r, nx, rfl, rfl, by rw [← E2.out], rfl, by rw [← E4.out], HF', hr, rfl⟩
              case measure => simp
            · have d10 : 0 < o.re := by omega
              have d11 : decide (o.re ≤ 0) = false := by simpa using h10
              by_cases hq : wrap64 (wrap64 (o.ex + o.pr) + o.re) = o.qty
              · have dq : (wrap64 (wrap64 (o.ex + o.pr) + o.re) != o.qty) = false := by simp [hq]
                have HQ : Hid (wrap64 (wrap64 (o.ex + o.pr) + o.re) = o.qty) := hq
                clear hq
                have HF' : Hid (vfold sg (vstep sg ⟨best, false, hold⟩ o) r = vfold sg s (C k)) := HF.out
                have E2 : Hid (o.price = (vstep sg ⟨best, false, hold⟩ o).best) := by show _ = _; simp [vstep, better]
                have E4 : Hid (hold = (vstep sg ⟨best, false, hold⟩ o).hold) := by show _ = _; simp [vstep, okOrd, d10, HQ.out]
                go_wp2
                go_quiet (fail)
                go_wp2
                go_quiet (fail)
                go_wp2
                go_roundg r.length
                case rel => exact ⟨_, vstep sg ⟨best, false, hold⟩ o, r, nx, rfl, rfl, by rw [← E2.out], rfl, by rw [← E4.out], HF', hr, rfl⟩
                case measure => simp
              · have dq : (wrap64 (wrap64 (o.ex + o.pr) + o.re) != o.qty) = true := by simp [hq]
                have HQ : Hid (¬ wrap64 (wrap64 (o.ex + o.pr) + o.re) = o.qty) := hq
                clear hq
                have HF' : Hid (vfold sg (vstep sg ⟨best, false, hold⟩ o) r = vfold sg s (C k)) := HF.out
                have E2 : Hid (o.price = (vstep sg ⟨best, false, hold⟩ o).best) := by show _ = _; simp [vstep, better]
                have E4 : Hid (false = (vstep sg ⟨best, false, hold⟩ o).hold) := by show _ = _; simp [vstep, okOrd, d10, HQ.out]
                go_wp2
                go_quiet (fail)
                go_wp2
                go_quiet (fail)
                go_wp2
                go_roundg r.length
                case rel => exact ⟨_, vstep sg ⟨best, false, hold⟩ o, r, nx, rfl, rfl, by rw [← E2.out], rfl, by rw [← E4.out], HF', hr, rfl⟩
                case measure => simp
          | true =>
            by_cases hb : wrap64 (sg * best) < wrap64 (sg * o.price)
            · skip
              by_cases h10 : o.re ≤ 0
              · have d10 : ¬ 0 < o.re := by omega
                have HF' : Hid (vfold sg (vstep sg ⟨best, true, hold⟩ o) r = vfold sg s (C k)) := HF.out
                have E2 : Hid (o.price = (vstep sg ⟨best, true, hold⟩ o).best) := by show _ = _; simp [vstep, better, hb]
                have E4 : Hid (false = (vstep sg ⟨best, true, hold⟩ o).hold) := by show _ = _; simp [vstep, okOrd, d10]
                go_wp2
                go_quiet (fail)
                go_wp2
                go_quiet (fail)
                go_wp2
                go_roundg r.length
                case rel => exact ⟨_, vstep sg ⟨best, true, hold⟩ o, r, nx, rfl, rfl, by rw [← E2.out], rfl, by rw [← E4.out], HF', hr, rfl⟩
                case measure => simp
              · have d10 : 0 < o.re := by omega
                have d11 : decide (o.re ≤ 0) = false := by simpa using h10
                by_cases hq : wrap64 (wrap64 (o.ex + o.pr) + o.re) = o.qty
                · have dq : (wrap64 (wrap64 (o.ex + o.pr) + o.re) != o.qty) = false := by simp [hq]
                  have HQ : Hid (wrap64 (wrap64 (o.ex + o.pr) + o.re) = o.qty) := hq
                  clear hq
                  have HF' : Hid (vfold sg (vstep sg ⟨best, true, hold⟩ o) r = vfold sg s (C k)) := HF.out
                  have E2 : Hid (o.price = (vstep sg ⟨best, true, hold⟩ o).best) := by show _ = _; simp [vstep, better, hb]
                  have E4 : Hid (hold = (vstep sg ⟨best, true, hold⟩ o).hold) := by show _ = _; simp [vstep, okOrd, d10, HQ.out]
                  go_wp2
                  go_quiet (fail)
                  go_wp2
                  go_quiet (fail)
                  go_wp2
                  go_roundg r.length
                  case rel => exact ⟨_, vstep sg ⟨best, true, hold⟩ o, r, nx, rfl, rfl, by rw [← E2.out], rfl, by rw [← E4.out], HF', hr, rfl⟩
                  case measure => simp
                · have dq : (wrap64 (wrap64 (o.ex + o.pr) + o.re) != o.qty) = true := by simp [hq]
                  have HQ : Hid (¬ wrap64 (wrap64 (o.ex + o.pr) + o.re) = o.qty) := hq
                  clear hq
                  have HF' : Hid (vfold sg (vstep sg ⟨best, true, hold⟩ o) r = vfold sg s (C k)) := HF.out
                  have E2 : Hid (o.price = (vstep sg ⟨best, true, hold⟩ o).best) := by show _ = _; simp [vstep, better, hb]
                  have E4 : Hid (false = (vstep sg ⟨best, true, hold⟩ o).hold) := by show _ = _; simp [vstep, okOrd, d10, HQ.out]
                  go_wp2
                  go_quiet (fail)
                  go_wp2
                  go_quiet (fail)
                  go_wp2
                  go_roundg r.length
                  case rel => exact ⟨_, vstep sg ⟨best, true, hold⟩ o, r, nx, rfl, rfl, by rw [← E2.out], rfl, by rw [← E4.out], HF', hr, rfl⟩
                  case measure => simp
            · have db : decide (wrap64 (sg * best) < wrap64 (sg * o.price)) = false := by simpa using hb
              by_cases h10 : o.re ≤ 0
              · have d10 : ¬ 0 < o.re := by omega
                have HF' : Hid (vfold sg (vstep sg ⟨best, true, hold⟩ o) r = vfold sg s (C k)) := HF.out
                have E2 : Hid (best = (vstep sg ⟨best, true, hold⟩ o).best) := by show _ = _; simp [vstep, better, hb]
                have E4 : Hid (false = (vstep sg ⟨best, true, hold⟩ o).hold) := by show _ = _; simp [vstep, okOrd, d10]
                go_wp2
                go_quiet (fail)
                go_wp2
                go_quiet (fail)
                go_wp2
                go_roundg r.length
                case rel => exact ⟨_, vstep sg ⟨best, true, hold⟩ o, r, nx, rfl, rfl, by rw [← E2.out], rfl, by rw [← E4.out], HF', hr, rfl⟩
                case measure => simp
              · have d10 : 0 < o.re := by omega
                have d11 : decide (o.re ≤ 0) = false := by simpa using h10
                by_cases hq : wrap64 (wrap64 (o.ex + o.pr) + o.re) = o.qty
                · have dq : (wrap64 (wrap64 (o.ex + o.pr) + o.re) != o.qty) = false := by simp [hq]
                  have HQ : Hid (wrap64 (wrap64 (o.ex + o.pr) + o.re) = o.qty) := hq
                  clear hq
                  have HF' : Hid (vfold sg (vstep sg ⟨best, true, hold⟩ o) r = vfold sg s (C k)) := HF.out
                  have E2 : Hid (best = (vstep sg ⟨best, true, hold⟩ o).best) := by show _ = _; simp [vstep, better, hb]
                  have E4 : Hid (hold = (vstep sg ⟨best, true, hold⟩ o).hold) := by show _ = _; simp [vstep, okOrd, d10, HQ.out]
                  go_wp2
                  go_quiet (fail)
                  go_wp2
                  go_quiet (fail)
                  go_wp2
                  go_roundg r.length
                  case rel => exact ⟨_, vstep sg ⟨best, true, hold⟩ o, r, nx, rfl, rfl, by rw [← E2.out], rfl, by rw [← E4.out], HF', hr, rfl⟩
                  case measure => simp
                · have dq : (wrap64 (wrap64 (o.ex + o.pr) + o.re) != o.qty) = true := by simp [hq]
                  have HQ : Hid (¬ wrap64 (wrap64 (o.ex + o.pr) + o.re) = o.qty) := hq
                  clear hq
                  have HF' : Hid (vfold sg (vstep sg ⟨best, true, hold⟩ o) r = vfold sg s (C k)) := HF.out
                  have E2 : Hid (best = (vstep sg ⟨best, true, hold⟩ o).best) := by show _ = _; simp [vstep, better, hb]
                  have E4 : Hid (false = (vstep sg ⟨best, true, hold⟩ o).hold) := by show _ = _; simp [vstep, okOrd, d10, HQ.out]
                  go_wp2
                  go_quiet (fail)
                  go_wp2
                  go_quiet (fail)
                  go_wp2
                  go_roundg r.length
                  case rel => exact ⟨_, vstep sg ⟨best, true, hold⟩ o, r, nx, rfl, rfl, by rw [← E2.out], rfl, by rw [← E4.out], HF', hr, rfl⟩
                  case measure => simp
    · go_wp2
      go_ret3
      have : k = n := by omega
      subst this
      have e := HS.out
      subst e
      exact ⟨rfl, m, rfl⟩

end Go.Proofs.Ybulkcinc
