import Derived.Test.YbulkciosFmtState
import Derived.Stop.CallBack
import Derived.Stop.IfaceNil
import GoSem.ClaimData
namespace Go.Proofs.YbulkciosFmt
open Go.RowKit Go.Extern.Stop Go.Stop Go.Extern

theorem Ybaf.call19 (args : Array Value) (w : World) : (callFunc 19 args).run Ybaf.prog w = ((FmtStop.errorf #[9, 68] #[41] args).run Ybaf.prog w).andThen fun v w' => .ok (.value v) w' :=
  run_callFunc_extern Ybaf.func19 (by kernel_rfl) (by kernel_rfl) (by kernel_rfl) (by kernel_rfl) args w
theorem Ybaf.guard (name : String) (w : World) : (FmtStop.guard name).run Ybaf.prog w = .ok () w := by kernel_rfl
/-- The format of 'write'. -/
def fmtStr : ByteArray := ⟨#[110, 111, 100, 101, 32, 111, 102, 32, 37, 100, 32, 98, 121, 116, 101, 115, 44, 32, 99, 111, 117, 110, 116, 101, 100, 32, 97, 115, 32, 37, 100, 44, 32, 102, 111, 114, 32, 97, 32, 112, 97, 103, 101, 32, 111, 102, 32, 37, 100]⟩
theorem Ybaf.fmt0 : FmtStop.printed? ⟨#[110, 111, 100, 101, 32, 111, 102, 32, 37, 100, 32, 98, 121, 116, 101, 115, 44, 32, 99, 111, 117, 110, 116, 101, 100, 32, 97, 115, 32, 37, 100, 44, 32, 102, 111, 114, 32, 97, 32, 112, 97, 103, 101, 32, 111, 102, 32, 37, 100]⟩ 3 = some [(0, 100, false), (1, 100, false), (2, 100, false)] := by kernel_rfl
theorem Ybaf.fmt0r (w : World) : (FmtDoors.printed ⟨#[110, 111, 100, 101, 32, 111, 102, 32, 37, 100, 32, 98, 121, 116, 101, 115, 44, 32, 99, 111, 117, 110, 116, 101, 100, 32, 97, 115, 32, 37, 100, 44, 32, 102, 111, 114, 32, 97, 32, 112, 97, 103, 101, 32, 111, 102, 32, 37, 100]⟩ 3).run Ybaf.prog w = .ok [(0, 100, false), (1, 100, false), (2, 100, false)] w := by kernel_rfl
theorem Ybaf.fmt1 : FmtStop.printed? ⟨#[110, 111, 100, 101, 32, 111, 102, 32, 37, 100, 32, 98, 121, 116, 101, 115, 44, 32, 99, 111, 117, 110, 116, 101, 100, 32, 97, 115, 32, 37, 100, 44, 32, 102, 111, 114, 32, 97, 32, 112, 97, 103, 101, 32, 111, 102, 32, 37, 100]⟩ 0 = some [] := by kernel_rfl
theorem Ybaf.fmt1r (w : World) : (FmtDoors.printed ⟨#[110, 111, 100, 101, 32, 111, 102, 32, 37, 100, 32, 98, 121, 116, 101, 115, 44, 32, 99, 111, 117, 110, 116, 101, 100, 32, 97, 115, 32, 37, 100, 44, 32, 102, 111, 114, 32, 97, 32, 112, 97, 103, 101, 32, 111, 102, 32, 37, 100]⟩ 0).run Ybaf.prog w = .ok [] w := by kernel_rfl
def shape3 : List UInt8 := [5, 3, 0, 0, 0, 0, 0, 0, 0, 105, 110, 116]
theorem Ybaf.op3_100 (name : String) (x : Int) (w : World) : (FmtStop.operand name false 100 false (.iface 3 (.int .i64 x))).run Ybaf.prog w = .ok (shape3, Go.Extern.Stop.digits 8 (x % 2 ^ 64).toNat) w := by kernel_rfl
theorem Ybaf.op3_100w (name : String) (x : Int) (w : World) : (FmtStop.operand name true 100 false (.iface 3 (.int .i64 x))).run Ybaf.prog w = .ok (shape3, Go.Extern.Stop.digits 8 (x % 2 ^ 64).toNat) w := by kernel_rfl
theorem Ybaf.ptr97 (w : World) : (FmtStop.ptrTo "errors.errorString").run Ybaf.prog w = .ok 97 w := by kernel_rfl
theorem Ybaf.elem97 (w : World) : (elemOf 97).run Ybaf.prog w = .ok 99 w := by kernel_rfl

set_option maxRecDepth 100000 in
set_option maxHeartbeats 400000 in
theorem errorf12 (F : Interp) (x y z : Int) (blk : Nat) (w : World) (hF : F.answers w.tape)
    (hc0 : w.cell? ⟨blk, 0, none⟩ = some (.iface 3 (.int .i64 x))) (hc1 : w.cell? ⟨blk, 1, none⟩ = some (.iface 3 (.int .i64 y))) (hc2 : w.cell? ⟨blk, 2, none⟩ = some (.iface 3 (.int .i64 z))) :
    Calls Ybaf.prog 12 #[.string ⟨#[110, 111, 100, 101, 32, 111, 102, 32, 37, 100, 32, 98, 121, 116, 101, 115, 44, 32, 99, 111, 117, 110, 116, 101, 100, 32, 97, 115, 32, 37, 100, 44, 32, 102, 111, 114, 32, 97, 32, 112, 97, 103, 101, 32, 111, 102, 32, 37, 100]⟩, .slice (some ⟨blk, 0, none⟩) 3 3] w fun e w' =>
      (∃ q, e = .returned (.iface 97 q)) ∧ w.grownBy w' none := by
  have hF' := Stop.Interp.answers_open hF
  have f1 := Ybaf.call19
  have f2 := Ybaf.guard
  have f3 := Ybaf.fmt0
  have f4 := Ybaf.fmt0r
  have f5 := Ybaf.fmt1
  have f6 := Ybaf.fmt1r
  have f7 := Ybaf.op3_100
  have f8 := Ybaf.op3_100w
  have f9 := Ybaf.ptr97
  have f10 := Ybaf.elem97
  go_enter Ybaf.func12, Ybaf.ntmps12
  go_wp2
  go_ret
  exact ⟨⟨_, rfl⟩, grown_two (grown_alloc _ _) ⟨rfl, rfl, rfl, Nat.le_refl _, fun _ _ _ => rfl⟩ (.inl rfl) (.inl rfl)⟩

end Go.Proofs.YbulkciosFmt
