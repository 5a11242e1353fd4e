/-
  The small functions of a node: forget (13), leafEntrySize (28), count (27), key (29), pair (43), val (30), units (17), unitSize (18), size (11).
-/
import Derived.Test.YbulkciosFmtProg
import Derived.WalkKit
import Derived.WalkSpells
import Derived.WalkLawsBesides
import Derived.Deep.LoopGhost
import Derived.Deep.RegionHeld3
import Derived.Deep.QuietTactic
import Derived.Deep.CutBlock
import Derived.OwnWalk
import Derived.Laws.CopyOwn
import Derived.Lib.SliceRun
namespace Go.Proofs.YbulkciosFmt
open Go.RowKit

theorem Hid.mk' {p : Prop} (h : p) : Hid p := h

/-- A callee that draws nothing, met in a region that draws. -/
theorem quiet_at {P : Program} {f : FuncId} {args : Array Value} {w : World} {n : Nat} {v : Value}
    (h : Calls P f args (w.drewN n) fun e w' => e = .returned v ∧ w' = w.drewN n) : Calls P f args (w.drewN n) fun e w'' => e = .returned v ∧ ∃ m, w'' = w.drewN m :=
  h.mono fun _ _ ⟨he, hm⟩ => ⟨he, n, hm⟩

theorem cell_stays {B : Nat} {w w' : World} (h : Below B w w') {a : Addr} {v : Value} (hc : w.cell? a = some v) (hB : w.heap.size ≤ B) : w'.cell? a = some v := by
  rw [h.cell (Nat.lt_of_lt_of_le (World.block_lt_of_cell? w a hc) hB)]; exact hc

theorem belowN {B : Nat} {a w : World} (h : Below B a w) (m : Nat) : Below B a (w.drewN m) := h.trans ⟨rfl, rfl, rfl, Nat.le_refl _, fun _ _ => rfl⟩

theorem wrapIn (x : Int) (h1 : -9223372036854775808 ≤ x) (h2 : x ≤ 9223372036854775807) : wrap64 x = x := by unfold wrap64; omega

set_option maxRecDepth 100000 in
theorem forget13 (w : World) (id : Int) : Calls Ybaf.prog 13 #[.pointer none, .int .u64 id] w fun e w' => e = .returned (.tuple #[]) ∧ w' = w := by
  go_enter Ybaf.func13, Ybaf.ntmps13
  go_wp2
  refine bodyPost_ret (results_none rfl _ _ _) rfl ?_
  exact ⟨rfl, rfl⟩

set_option maxRecDepth 100000 in
theorem size28 (w : World) (a b : Option Addr) (n m c d : Nat) (hn : n ≤ 140737488355328) (hm : m ≤ 140737488355328) : Calls Ybaf.prog 28 #[.slice a n c, .slice b m d] w fun e w' => e = .returned (.int .i64 ((4 + n + m : Nat) : Int)) ∧ w' = w := by
  go_enter Ybaf.func28, Ybaf.ntmps28
  go_wp2
  go_ret
  exact ⟨rfl, rfl⟩

/-- What a node that was never read from a page shows of itself. -/
structure Own (w : World) (bn : Nat) (leaf : Bool) (ks vs : Value) : Prop where
  leaf : w.cell? ⟨bn, 2, none⟩ = some (.bool leaf)
  data : w.cell? ⟨bn, 3, none⟩ = some (.slice none 0 0)
  keys : w.cell? ⟨bn, 5, none⟩ = some ks
  vals : w.cell? ⟨bn, 6, none⟩ = some vs

theorem Own.drewN {w : World} {bn : Nat} {leaf : Bool} {ks vs : Value} (h : Own w bn leaf ks vs) (m : Nat) : Own (w.drewN m) bn leaf ks vs := ⟨h.leaf, h.data, h.keys, h.vals⟩

set_option maxRecDepth 100000 in
theorem count27 (w : World) (bn : Nat) (leaf : Bool) (kb : Option Addr) (n c : Nat) (vs : Value) (h : Own w bn leaf (.slice kb n c) vs) : Calls Ybaf.prog 27 #[.pointer (some ⟨bn, 0, none⟩)] w fun e w' => e = .returned (.int .i64 n) ∧ w' = w := by
  obtain ⟨h2, h3, h5, h6⟩ := h
  go_enter Ybaf.func27, Ybaf.ntmps27
  go_wp2
  go_ret
  exact ⟨rfl, rfl⟩

set_option maxRecDepth 100000 in
theorem key29 (w : World) (bn : Nat) (leaf : Bool) (kb : Nat) (n c i : Nat) (vs kv : Value) (h : Own w bn leaf (.slice (some ⟨kb, 0, none⟩) n c) vs) (hi : i < n) (hc : w.cell? ⟨kb, i, none⟩ = some kv) :
    Calls Ybaf.prog 29 #[.pointer (some ⟨bn, 0, none⟩), .int .i64 i] w fun e w' => e = .returned kv ∧ w' = w := by
  obtain ⟨h2, h3, h5, h6⟩ := h
  have hq : ∀ (w : World) (a : Option Addr) (n c : Nat), (binOp .eql 26 (.slice a n c) (.slice none 0 0)).run Ybaf.prog w = .ok (.bool a.isNone) w := fun w a n c => Lib.run_eql_slice_nil w 26 5 a n c 0 0 Ybaf.underlying26
  go_enter Ybaf.func29, Ybaf.ntmps29
  go_wp2
  go_ret
  exact ⟨rfl, rfl⟩

set_option maxRecDepth 100000 in
theorem pair43 (w : World) (bn : Nat) (leaf : Bool) (kb vb : Nat) (n c d i : Nat) (kv vv : Value) (h : Own w bn leaf (.slice (some ⟨kb, 0, none⟩) n c) (.slice (some ⟨vb, 0, none⟩) n d)) (hi : i < n) (hc : w.cell? ⟨kb, i, none⟩ = some kv) (hv : w.cell? ⟨vb, i, none⟩ = some vv) :
    Calls Ybaf.prog 43 #[.pointer (some ⟨bn, 0, none⟩), .int .i64 i] w fun e w' => e = .returned (.tuple #[kv, vv]) ∧ ∃ m, w' = w.drewN m := by
  obtain ⟨h2, h3, h5, h6⟩ := h
  have hq : ∀ (w : World) (a : Option Addr) (n c : Nat), (binOp .eql 26 (.slice a n c) (.slice none 0 0)).run Ybaf.prog w = .ok (.bool a.isNone) w := fun w a n c => Lib.run_eql_slice_nil w 26 5 a n c 0 0 Ybaf.underlying26
  go_enter Ybaf.func43, Ybaf.ntmps43
  go_wp2_with fail
  go_quiet (fail)
  go_wp2
  go_ret2
  exact ⟨rfl, _, rfl⟩

set_option maxRecDepth 100000 in
theorem val30 (w : World) (bn : Nat) (leaf : Bool) (kb vb : Nat) (n c d i : Nat) (kv vv : Value) (h : Own w bn leaf (.slice (some ⟨kb, 0, none⟩) n c) (.slice (some ⟨vb, 0, none⟩) n d)) (hi : i < n) (hc : w.cell? ⟨kb, i, none⟩ = some kv) (hv : w.cell? ⟨vb, i, none⟩ = some vv) :
    Calls Ybaf.prog 30 #[.pointer (some ⟨bn, 0, none⟩), .int .i64 i] w fun e w' => e = .returned vv ∧ ∃ m, w' = w.drewN m := by
  go_enter Ybaf.func30, Ybaf.ntmps30
  go_wp2_with fail
  refine (pair43 w bn leaf kb vb n c d i kv vv h hi hc hv).mono ?_
  rintro e w1 ⟨rfl, m, rfl⟩
  go_wp2
  go_ret
  exact ⟨rfl, m, rfl⟩

set_option maxRecDepth 100000 in
theorem units17 (w : World) (bn : Nat) (kb : Option Addr) (n c : Nat) (vs : Value) (h : Own w bn true (.slice kb n c) vs) : Calls Ybaf.prog 17 #[.pointer (some ⟨bn, 0, none⟩)] w fun e w' => e = .returned (.int .i64 n) ∧ w' = w := by
  have h2 := h.leaf
  go_enter Ybaf.func17, Ybaf.ntmps17
  go_wp2_with fail
  refine (count27 w bn true kb n c vs h).mono ?_
  rintro e w1 ⟨rfl, rfl⟩
  go_wp2
  go_ret
  exact ⟨rfl, rfl⟩

set_option maxRecDepth 100000 in
theorem unitSize18 (w : World) (bn : Nat) (kb vb : Nat) (n c d i : Nat) (p q : Addr) (k v kc vc : Nat) (h : Own w bn true (.slice (some ⟨kb, 0, none⟩) n c) (.slice (some ⟨vb, 0, none⟩) n d)) (hi : i < n)
    (hc : w.cell? ⟨kb, i, none⟩ = some (.slice (some p) k kc)) (hv : w.cell? ⟨vb, i, none⟩ = some (.slice (some q) v vc)) (hk : k ≤ 140737488355328) (hv' : v ≤ 140737488355328) :
    Calls Ybaf.prog 18 #[.pointer (some ⟨bn, 0, none⟩), .int .i64 i] w fun e w' => e = .returned (.int .i64 ((4 + k + v : Nat) : Int)) ∧ ∃ m, w' = w.drewN m := by
  have h2 := h.leaf
  go_enter Ybaf.func18, Ybaf.ntmps18
  go_wp2_with fail
  refine (key29 w bn true kb n c i _ _ h hi hc).mono ?_
  rintro e w1 ⟨rfl, rfl⟩
  go_wp2_with fail
  refine (val30 w1 bn true kb vb n c d i _ _ h hi hc hv).mono ?_
  rintro e w2 ⟨rfl, m, rfl⟩
  go_wp2_with fail
  refine (size28 _ _ _ k v _ _ hk hv').mono ?_
  rintro e w2 ⟨rfl, rfl⟩
  go_wp2
  go_ret
  exact ⟨rfl, m, rfl⟩

/-- A row of n byte slices: what each holds. -/
def Bufs (w : World) (B n : Nat) (K : Nat → List Int) : Prop :=
  ∀ j, j < n → ∃ p c, w.cell? ⟨B, j, none⟩ = some (.slice (some ⟨p, 0, none⟩) (K j).length c) ∧ ∀ i y, (K j)[i]? = some y → w.cell? ⟨p, i, none⟩ = some (.int .u8 y)

theorem Bufs.drewN {w : World} {B n : Nat} {K : Nat → List Int} (h : Bufs w B n K) (m : Nat) : Bufs (w.drewN m) B n K := h

theorem Bufs.below {w w' : World} {B n : Nat} {K : Nat → List Int} (h : Bufs w B n K) (hb : Below w.heap.size w w') : Bufs w' B n K := fun j hj => by
  obtain ⟨p, c, h1, h2⟩ := h j hj
  exact ⟨p, c, cell_stays hb h1 (Nat.le_refl _), fun i y hy => cell_stays hb (h2 i y hy) (Nat.le_refl _)⟩

/-- The encoded size of the first n pairs. -/
def lsz (K V : Nat → List Int) : Nat → Nat
  | 0 => 4
  | n + 1 => lsz K V n + (4 + (K n).length + (V n).length)

theorem lsz_mono (K V : Nat → List Int) (m n : Nat) (h : m ≤ n) : lsz K V m ≤ lsz K V n := by
  induction n with
  | zero => obtain rfl : m = 0 := by omega
            exact Nat.le_refl _
  | succ n ih =>
    rcases Nat.lt_or_ge m (n + 1) with h1 | h1
    · have := ih (by omega)
      simp only [lsz]
      omega
    · obtain rfl : m = n + 1 := by omega
      exact Nat.le_refl _

theorem lsz_le (K V : Nat → List Int) (n : Nat) (hK : ∀ j, j < n → (K j).length ≤ 140737488355328) (hV : ∀ j, j < n → (V j).length ≤ 140737488355328) : lsz K V n ≤ 4 + n * 281474976710660 := by
  induction n with
  | zero => simp [lsz]
  | succ n ih =>
    have h1 := ih (fun j hj => hK j (by omega)) (fun j hj => hV j (by omega))
    have h2 := hK n (by omega)
    have h3 := hV n (by omega)
    simp only [lsz]
    omega

set_option maxRecDepth 100000 in
theorem size11 (w : World) (bn : Nat) (kb vb : Nat) (n c d : Nat) (K V : Nat → List Int) (h : Own w bn true (.slice (some ⟨kb, 0, none⟩) n c) (.slice (some ⟨vb, 0, none⟩) n d)) (hn : n ≤ 1024)
    (hk : Bufs w kb n K) (hv : Bufs w vb n V) (hK : ∀ j, j < n → (K j).length ≤ 140737488355328) (hV : ∀ j, j < n → (V j).length ≤ 140737488355328) :
    Calls Ybaf.prog 11 #[.pointer (some ⟨bn, 0, none⟩)] w fun e w' => e = .returned (.int .i64 (lsz K V n)) ∧ ∃ m, w' = w.drewN m := by
  go_enter Ybaf.func11, Ybaf.ntmps11
  go_wp2_with fail
  refine (units17 w bn _ n c _ h).mono ?_
  rintro e w1 ⟨rfl, rfl⟩
  go_wp2
  go_loopg [3, 7] n (fun gk t3 t7 wr => ∃ k : Nat, k + gk = n ∧ t7 = .int .i64 k ∧ t3 = .int .i64 (lsz K V k) ∧ ∃ m, wr = w1.drewN m)
  case atStart => exact ⟨0, by omega, rfl, rfl, 0, rfl⟩
  case round =>
    obtain ⟨k, hk1, rfl, rfl, m, rfl⟩ := hrel
    by_cases hlt : k < n
    · obtain ⟨p, cp, e1, _⟩ := hk k hlt
      obtain ⟨q, cq, e2, _⟩ := hv k hlt
      have b1 := hK k hlt
      have b2 := hV k hlt
      have hs := fun w => unitSize18 (w1.drewN w) bn kb vb n c d k _ _ _ _ _ _ (h.drewN _) hlt e1 e2 b1 b2
      have hle := lsz_le K V k (fun j hj => hK j (by omega)) (fun j hj => hV j (by omega))
      have HS : Hid (lsz K V (k + 1) = lsz K V k + (4 + (K k).length + (V k).length)) := rfl
      generalize hA : lsz K V k = A at *
      generalize hB : lsz K V (k + 1) = B at *
      generalize hx : (K k).length = x at *
      generalize hy : (V k).length = y at *
      have HB : Hid (lsz K V (k + 1) = B) := hB
      clear hA hB hx hy e1 e2
      go_wp2_with fail
      refine (hs m).mono ?_
      rintro e w2 ⟨rfl, m2, rfl⟩
      go_wp2
      go_roundg (gk - 1)
      case rel => exact ⟨k + 1, by omega, by go_num, by rw [HB.out]; have := HS.out; go_num, _, rfl⟩
      case measure => omega
    · obtain rfl : k = n := by omega
      go_wp2
      go_ret
      exact ⟨rfl, m, rfl⟩

end Go.Proofs.YbulkciosFmt
