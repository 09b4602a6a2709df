import Derived.Test.YbulkdsziRows
import Derived.WalkKit
import Derived.StillTailTactics
namespace Go.Proofs.Ybulkdszi
open Go.RowKit

/-- The fifteen addresses of a happening's strings, as values. -/
def ptrs (h : Nat) : Array Value := #[.pointer (some ⟨h, 0, none⟩), .pointer (some ⟨h, 1, none⟩), .pointer (some ⟨h, 2, none⟩), .pointer (some ⟨h, 3, none⟩), .pointer (some ⟨h, 4, none⟩), .pointer (some ⟨h, 5, none⟩), .pointer (some ⟨h, 6, none⟩), .pointer (some ⟨h, 7, none⟩), .pointer (some ⟨h, 8, none⟩), .pointer (some ⟨h, 9, none⟩), .pointer (some ⟨h, 10, none⟩), .pointer (some ⟨h, 11, none⟩), .pointer (some ⟨h, 12, none⟩), .pointer (some ⟨h, 13, none⟩), .pointer (some ⟨h, 14, none⟩)]

theorem mixed : Yba.prog.follows .mixedOrders = true := by kernel_rfl

theorem wp_still_tail {P : Program} {id : Nat} {Q : Exit → Act → World → Prop} {a : Act} {w : World} {l : List Oper} (n : Nat) (hm : P.follows .mixedOrders = true) (hB : Region.lexTailB .any l.toArray n = true)
    (h : wpStill P l.toArray w.drew (fun a' => wpList P l.toArray Q (l.drop n) a' w.drew) (l.take n) a) : (Code.region id l.toArray true).wp P Q a w :=
  wp_region_still_tail n hm hB h

set_option maxHeartbeats 4000000 in
set_option maxRecDepth 100000 in
theorem fields_any (h : Nat) (w : World) :
    Calls Yba.prog 12 #[.pointer (some ⟨h, 0, none⟩)] w fun e w' => e = .returned (.agg (ptrs h)) ∧ w' = (w.alloc (.cells (ptrs h) 59)).drew := by
  go_enter Yba.func12, Yba.ntmps12
  go_wp2
  refine wp_still_tail 58 mixed (by kernel_rfl) ?_
  simp only [List.take_succ_cons, List.take_zero, List.drop_succ_cons, List.drop_zero]
  repeat still_step
  try refine wpStill_nil ?_
  go_wp2
  exact bodyPost_ret (v := .agg (ptrs h)) (by simp [results, Yba.results12, ptrs, go_sem]) rfl ⟨rfl, rfl⟩
end Go.Proofs.Ybulkdszi
