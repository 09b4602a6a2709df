import Derived.Test.YbulkdtayZz
import Derived.Deep.CutBlock
namespace Go.Proofs.Ybulkdtay
open Go.RowKit

set_option maxRecDepth 100000 in
set_option maxHeartbeats 1000000 in
theorem law_big (a0 : Int) (a1 : ByteArray) (a2 : Option Addr) (len2 cap2 : Nat) (a3 a4 a5 : Int) (a6 : ByteArray) (a7 : Option Addr) (len7 cap7 : Nat) (a8 : Bool) (a9 : Option Addr) (len9 cap9 : Nat) (w : World)
    (h : 4096 < len9 ∨ 1048576 < len7 ∨ 1048576 < len2) :
    Calls Yba.prog 3 #[.int .i32 a0, .string a1, .slice a2 len2 cap2, .int .i32 a3, .int .i32 a4, .int .i32 a5, .string a6, .slice a7 len7 cap7, .bool a8, .slice a9 len9 cap9] w fun e w' => e = .returned (.bool true) ∧ w' = w := by
  by_cases h9 : 4096 < len9
  · have hd : decide ((4096 : Int) < (len9 : Int)) = true := by simp; omega
    clear h h9
    go_enter Yba.func3, Yba.ntmps3
    go_wp2_with fail
    go_ret
    exact ⟨rfl, rfl⟩
  · have hd : decide ((4096 : Int) < (len9 : Int)) = false := by simp; omega
    by_cases h7 : 1048576 < len7
    · have hd7 : decide ((1048576 : Int) < (len7 : Int)) = true := by simp; omega
      clear h h9 h7
      go_enter Yba.func3, Yba.ntmps3
      go_wp2_with fail
      go_ret
      exact ⟨rfl, rfl⟩
    · have hd7 : decide ((1048576 : Int) < (len7 : Int)) = false := by simp; omega
      have hd2 : decide ((1048576 : Int) < (len2 : Int)) = true := by simp; omega
      clear h h9 h7
      go_enter Yba.func3, Yba.ntmps3
      go_wp2_with fail
      go_ret
      exact ⟨rfl, rfl⟩

end Go.Proofs.Ybulkdtay
