import Derived.Test.YbulkdtayFmtUns
import Derived.Stop.CallBack
import Derived.Stop.IfaceNil
import Derived.Stop.FmtTextLaws
import GoSem.ClaimData
namespace Go.Proofs.YbulkdtayFmt
open Go.RowKit Go.Extern.Stop Go.Stop Go.Extern

-- fmt.errorf: function 31: a plain stop
theorem call31 (args : Array Value) (w : World) : (callFunc 31 args).run Ybaf.prog w = ((FmtStop.errorf #[9, 70] #[32] args).run Ybaf.prog w).andThen fun v w' => .ok (.value v) w' :=
  run_callFunc_extern Ybaf.func31 (by kernel_rfl) (by kernel_rfl) (by kernel_rfl) (by kernel_rfl) args w
theorem fmtGuard (name : String) (w : World) : (FmtStop.guard name).run Ybaf.prog w = .ok () w := by kernel_rfl
theorem fmtB0 : FmtStop.printed? ⟨#[109, 111, 114, 101, 32, 116, 104, 97, 110, 32, 37, 100, 32, 115, 117, 98, 45, 105, 100, 101, 110, 116, 105, 102, 105, 101, 114, 115]⟩ 1 = some [(0, 100, false)] := by kernel_rfl
theorem fmtB0r (w : World) : (FmtDoors.printed ⟨#[109, 111, 114, 101, 32, 116, 104, 97, 110, 32, 37, 100, 32, 115, 117, 98, 45, 105, 100, 101, 110, 116, 105, 102, 105, 101, 114, 115]⟩ 1).run Ybaf.prog w = .ok [(0, 100, false)] w := by kernel_rfl
def shape3 : List UInt8 := [5, 3, 0, 0, 0, 0, 0, 0, 0, 105, 110, 116]
theorem op3_100w (name : String) (x : Int) (w : World) : (FmtStop.operand name true 100 false (.iface 3 (.int .i64 x))).run Ybaf.prog w = .ok (shape3, Go.Extern.Stop.digits 8 (x % 2 ^ 64).toNat) w := by kernel_rfl
theorem ptr72 (w : World) : (FmtStop.ptrTo "errors.errorString").run Ybaf.prog w = .ok 72 w := by kernel_rfl
theorem elem72 (w : World) : (elemOf 72).run Ybaf.prog w = .ok 74 w := by kernel_rfl

attribute [local go_sem] call31 fmtGuard fmtB0 fmtB0r op3_100w ptr72 elem72

def readB (x : Int) : List (List UInt8) := [[109, 111, 114, 101, 32, 116, 104, 97, 110, 32, 37, 100, 32, 115, 117, 98, 45, 105, 100, 101, 110, 116, 105, 102, 105, 101, 114, 115], shape3, digits 8 (x % 18446744073709551616).toNat]
set_option maxRecDepth 100000 in
theorem errorf_many (F : Interp) (x : Int) (blk : Nat) (w : World) (hF : F.answers w.tape) (hc0 : w.cell? ⟨blk, 0, none⟩ = some (.iface 3 (.int .i64 x))) :
    Calls Ybaf.prog 24 #[.string ⟨#[109, 111, 114, 101, 32, 116, 104, 97, 110, 32, 37, 100, 32, 115, 117, 98, 45, 105, 100, 101, 110, 116, 105, 102, 105, 101, 114, 115]⟩, .slice (some ⟨blk, 0, none⟩) 1 1] w fun e w' =>
      e = .returned (.iface 72 (.pointer (some ⟨w.heap.size, 0, none⟩))) ∧ w' = (w.alloc (.cells #[.string (FmtStop.textOf (F "fmt.errorf" (readB x) 0))] 74)).drew := by
  have hF' := hF
  unfold Interp.answers at hF'
  go_enter Ybaf.func24, Ybaf.ntmps24
  go_wp2
  go_ret
  exact ⟨rfl, rfl⟩
end Go.Proofs.YbulkdtayFmt
