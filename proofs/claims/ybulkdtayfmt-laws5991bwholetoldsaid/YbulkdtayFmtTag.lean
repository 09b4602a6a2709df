import Derived.Test.YbulkdtayFmtUns
namespace Go.Proofs.YbulkdtayFmt
open Go.RowKit

/-- The thirteen tags. -/
def tags : List Nat := [2, 4, 5, 6, 64, 65, 66, 67, 68, 70, 128, 129, 130]
set_option maxRecDepth 100000 in
set_option maxHeartbeats 2000000 in
theorem btag_any (i : Nat) (w : World) (hi : i < 13) : Calls Ybaf.prog 5 #[.int .i64 (i : Int)] w fun e w' => e = .returned (.int .u8 ((tags.getD i 0 : Nat) : Int)) ∧ Below w.heap.size w w' := by
  have h : i = 0 ∨ i = 1 ∨ i = 2 ∨ i = 3 ∨ i = 4 ∨ i = 5 ∨ i = 6 ∨ i = 7 ∨ i = 8 ∨ i = 9 ∨ i = 10 ∨ i = 11 ∨ i = 12 := by omega
  rcases h with rfl | rfl | rfl | rfl | rfl | rfl | rfl | rfl | rfl | rfl | rfl | rfl | rfl <;>
  · go_enter Ybaf.func5, Ybaf.ntmps5
    go_wp2
    go_ret
    exact ⟨rfl, (Below.refl _ _).alloc (Nat.le_refl _) _⟩
end Go.Proofs.YbulkdtayFmt
