import Derived.Test.YbulkdtayFmtOid
import Derived.BigQuiet
import Derived.Laws.Cover3
namespace Go.Proofs.YbulkdtayFmt
open Go.RowKit

theorem eql_nil28 (a : Option Addr) (l c : Nat) (w : World) : (binOp .eql 28 (.slice a l c) (.slice none 0 0)).run Ybaf.prog w = .ok (.bool a.isNone) w := by
  simp only [binOp]
  simp [run_equal_slice_nil w 28 56 a l c Ybaf.underlying28]
theorem eql_nil22 (a : Option Addr) (l c : Nat) (w : World) : (binOp .eql 22 (.slice a l c) (.slice none 0 0)).run Ybaf.prog w = .ok (.bool a.isNone) w := by
  simp only [binOp]
  simp [run_equal_slice_nil w 22 5 a l c Ybaf.underlying22]
set_option maxRecDepth 100000 in
set_option maxHeartbeats 2000000 in
theorem beq_nil (w : World) : Calls Ybaf.prog 12 #[.slice none 0 0, .slice none 0 0] w fun e w' => e = .returned (.bool true) ∧ w' = w := by
  have hq := eql_nil28
  go_enter Ybaf.func12, Ybaf.ntmps12
  go_wp2
  go_loop [5] (fun i => i = .int .i64 0) (fun _ => 0)
  case atStart => rfl
  case round =>
    obtain rfl := hrel
    go_wp2
    go_ret
    exact ⟨rfl, rfl⟩

set_option maxRecDepth 100000 in
set_option maxHeartbeats 2000000 in
theorem beq_row (g1 g2 c1 c2 : Nat) (l : List Nat) (w : World) (hl : l.length ≤ 1048577) (h1 : ∀ j, j < l.length → w.cell? ⟨g1, j, none⟩ = some (.int .u32 (l.getD j 0 : Nat))) (h2 : ∀ j, j < l.length → w.cell? ⟨g2, j, none⟩ = some (.int .u32 (l.getD j 0 : Nat))) :
    Calls Ybaf.prog 12 #[.slice (some ⟨g1, 0, none⟩) l.length c1, .slice (some ⟨g2, 0, none⟩) l.length c2] w fun e w' => e = .returned (.bool true) ∧ Below w.heap.size w w' := by
  generalize hn : l.length = n at *
  have hq := eql_nil28
  go_enter Ybaf.func12, Ybaf.ntmps12
  go_wp2
  go_loopw [5] (fun i wl => ∃ j : Nat, j ≤ n ∧ i = .int .i64 j ∧ Hid (Below w.heap.size w wl) ∧ Hid (∀ a, wl.cell? a = w.cell? a)) (fun i _ => n - (intOf i).toNat)
  case atStart => exact ⟨0, Nat.zero_le _, rfl, hide (Below.refl _ _), hide (fun _ => rfl)⟩
  case round =>
    obtain ⟨j, hj, rfl, HW, HA⟩ := hrel
    by_cases hlt : j < n
    · have c1 : wr.cell? ⟨g1, j, none⟩ = some (.int .u32 (l.getD j 0 : Nat)) := by rw [HA.out]; exact h1 j hlt
      have c2 : wr.cell? ⟨g2, j, none⟩ = some (.int .u32 (l.getD j 0 : Nat)) := by rw [HA.out]; exact h2 j hlt
      generalize l.getD j 0 = x at c1 c2
      go_wp2
      go_quiet (fail)
      go_wp2
      exact ⟨⟨j + 1, by omega, by simp, hide (below_drewN HW.out _), hide (fun a => HA.out a)⟩, by simp [intOf]; omega⟩
    · obtain rfl : j = n := by omega
      go_wp2
      go_ret
      exact ⟨rfl, HW.out⟩

/-- zzs5991boideq at two slices that read alike. -/
theorem beq_any (v1 v2 : Value) (o : Option (List Nat)) (w : World) (h1 : OidRow w v1 o) (h2 : OidRow w v2 o) : Calls Ybaf.prog 12 #[v1, v2] w fun e w' => e = .returned (.bool true) ∧ Below w.heap.size w w' := by
  cases o with
  | none =>
    obtain rfl : v1 = .slice none 0 0 := h1
    obtain rfl : v2 = .slice none 0 0 := h2
    refine (beq_nil w).mono ?_
    rintro e w' ⟨rfl, rfl⟩
    exact ⟨rfl, Below.refl _ _⟩
  | some l =>
    obtain ⟨g1, c1, rfl, _, hl, hc1⟩ := h1
    obtain ⟨g2, c2, rfl, _, _, hc2⟩ := h2
    exact beq_row g1 g2 c1 c2 l w hl hc1 hc2
end Go.Proofs.YbulkdtayFmt
