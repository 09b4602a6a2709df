import Derived.Test.YbulkdtayFmtBytes
namespace Go.Proofs.YbulkdtayFmt
open Go.RowKit Go.Extern.Stop Go.Stop Go.Extern

theorem IsBytes.below {w w' : World} {a : Option Addr} {len cap : Nat} {b : Nat → Nat} (h : IsBytes w a len cap b) {B : Nat} (k : Below B w w') (hB : w.heap.size ≤ B) : IsBytes w' a len cap b := by
  obtain ⟨hlc, hcm, hb, hc⟩ := h
  refine ⟨hlc, hcm, hb, fun hp => ?_⟩
  obtain ⟨g, off, rfl, hcell⟩ := hc hp
  exact ⟨g, off, rfl, fun j hj => by rw [k.cell (Nat.lt_of_lt_of_le (by exact cell_lt (hcell j hj)) hB)]; exact hcell j hj⟩

set_option maxRecDepth 100000 in
set_option maxHeartbeats 2000000 in
theorem pval_int (a : Option Addr) (len cap : Nat) (b : Nat → Nat) (ea : Addr) (w : World) (h : IsBytes w a len cap b) (hE : w.cell? ⟨0, 0, none⟩ = some (.iface 72 (.pointer (some ea)))) :
    Calls Ybaf.prog 7 #[.int .u8 2, .slice a len cap] w fun e w' => e = .returned (.tuple #[.agg #[.int .u8 2, .int .i64 ((intAns b len (-2147483648) 2147483647).getD 0), .int .u64 0, .string ⟨#[]⟩, .slice none 0 0], errOr (.iface 72 (.pointer (some ea))) (intAns b len (-2147483648) 2147483647)]) ∧ Below w.heap.size w w' := by
  have HP := hide (fun w' (hb : Below w.heap.size w w') => pint_any a len cap b (-2147483648) 2147483647 _ w' (IsBytes.below h hb (Nat.le_refl _)) ((hb.cell (by exact cell_lt hE)).trans hE))
  generalize intAns b len (-2147483648) 2147483647 = A at HP ⊢
  generalize errOr (.iface 72 (.pointer (some ea))) A = EV at HP ⊢
  go_enter Ybaf.func7, Ybaf.ntmps7
  go_wp2_with (go_at_call 16; refine (HP.out _ (((Below.refl _ _).alloc (Nat.le_refl _) _).alloc (by simp) _)).mono ?_; rintro e w' ⟨rfl, n, rfl⟩)
  have hb : Below w.heap.size w ((w.alloc (.cells #[.int .u8 0, .int .i64 0, .int .u64 0, .string ⟨#[]⟩, .slice none 0 0] 30)).alloc (.cells #[.int .u8 2, .int .i64 0, .int .u64 0, .string ⟨#[]⟩, .slice none 0 0] 30)) := ((Below.refl _ _).alloc (Nat.le_refl _) _).alloc (by simp) _
  exact bodyPost_ret (v := .tuple #[.agg #[.int .u8 2, .int .i64 (A.getD 0), .int .u64 0, .string ⟨#[]⟩, .slice none 0 0], EV]) (by simp [results, Ybaf.results7, go_sem]) rfl ⟨rfl, (((((((below_drewN hb n).setCell (by simp) _).setCell (by simp) _).setCell (by simp) _).setCell (by simp) _).setCell (by simp) _).setCell (by simp) _)⟩

set_option maxRecDepth 100000 in
set_option maxHeartbeats 2000000 in
theorem pval_uns65 (a : Option Addr) (len cap : Nat) (b : Nat → Nat) (ea : Addr) (w : World) (h : IsBytes w a len cap b) (hE : w.cell? ⟨0, 0, none⟩ = some (.iface 72 (.pointer (some ea)))) :
    Calls Ybaf.prog 7 #[.int .u8 65, .slice a len cap] w fun e w' => e = .returned (.tuple #[.agg #[.int .u8 65, .int .i64 0, .int .u64 (((unsAns b len 4294967295).getD 0 : Nat) : Int), .string ⟨#[]⟩, .slice none 0 0], errN (.iface 72 (.pointer (some ea))) (unsAns b len 4294967295)]) ∧ Below w.heap.size w w' := by
  have HP := hide (fun w' (hb : Below w.heap.size w w') => puns_any a len cap b 4294967295 ea w' (IsBytes.below h hb (Nat.le_refl _)) ((hb.cell (by exact cell_lt hE)).trans hE))
  generalize unsAns b len 4294967295 = A at HP ⊢
  generalize errN (.iface 72 (.pointer (some ea))) A = EV at HP ⊢
  go_enter Ybaf.func7, Ybaf.ntmps7
  go_wp2_with (go_at_call 18; refine (HP.out _ (((Below.refl _ _).alloc (Nat.le_refl _) _).alloc (by simp) _)).mono ?_; rintro e w' ⟨rfl, n, rfl⟩)
  have hb : Below w.heap.size w ((w.alloc (.cells #[.int .u8 0, .int .i64 0, .int .u64 0, .string ⟨#[]⟩, .slice none 0 0] 30)).alloc (.cells #[.int .u8 65, .int .i64 0, .int .u64 0, .string ⟨#[]⟩, .slice none 0 0] 30)) := ((Below.refl _ _).alloc (Nat.le_refl _) _).alloc (by simp) _
  exact bodyPost_ret (v := .tuple #[.agg #[.int .u8 65, .int .i64 0, .int .u64 ((A.getD 0 : Nat) : Int), .string ⟨#[]⟩, .slice none 0 0], EV]) (by simp [results, Ybaf.results7, go_sem]) rfl ⟨rfl, (((((((below_drewN hb n).setCell (by simp) _).setCell (by simp) _).setCell (by simp) _).setCell (by simp) _).setCell (by simp) _).setCell (by simp) _)⟩

set_option maxRecDepth 100000 in
set_option maxHeartbeats 2000000 in
theorem pval_uns66 (a : Option Addr) (len cap : Nat) (b : Nat → Nat) (ea : Addr) (w : World) (h : IsBytes w a len cap b) (hE : w.cell? ⟨0, 0, none⟩ = some (.iface 72 (.pointer (some ea)))) :
    Calls Ybaf.prog 7 #[.int .u8 66, .slice a len cap] w fun e w' => e = .returned (.tuple #[.agg #[.int .u8 66, .int .i64 0, .int .u64 (((unsAns b len 4294967295).getD 0 : Nat) : Int), .string ⟨#[]⟩, .slice none 0 0], errN (.iface 72 (.pointer (some ea))) (unsAns b len 4294967295)]) ∧ Below w.heap.size w w' := by
  have HP := hide (fun w' (hb : Below w.heap.size w w') => puns_any a len cap b 4294967295 ea w' (IsBytes.below h hb (Nat.le_refl _)) ((hb.cell (by exact cell_lt hE)).trans hE))
  generalize unsAns b len 4294967295 = A at HP ⊢
  generalize errN (.iface 72 (.pointer (some ea))) A = EV at HP ⊢
  go_enter Ybaf.func7, Ybaf.ntmps7
  go_wp2_with (go_at_call 18; refine (HP.out _ (((Below.refl _ _).alloc (Nat.le_refl _) _).alloc (by simp) _)).mono ?_; rintro e w' ⟨rfl, n, rfl⟩)
  have hb : Below w.heap.size w ((w.alloc (.cells #[.int .u8 0, .int .i64 0, .int .u64 0, .string ⟨#[]⟩, .slice none 0 0] 30)).alloc (.cells #[.int .u8 66, .int .i64 0, .int .u64 0, .string ⟨#[]⟩, .slice none 0 0] 30)) := ((Below.refl _ _).alloc (Nat.le_refl _) _).alloc (by simp) _
  exact bodyPost_ret (v := .tuple #[.agg #[.int .u8 66, .int .i64 0, .int .u64 ((A.getD 0 : Nat) : Int), .string ⟨#[]⟩, .slice none 0 0], EV]) (by simp [results, Ybaf.results7, go_sem]) rfl ⟨rfl, (((((((below_drewN hb n).setCell (by simp) _).setCell (by simp) _).setCell (by simp) _).setCell (by simp) _).setCell (by simp) _).setCell (by simp) _)⟩

set_option maxRecDepth 100000 in
set_option maxHeartbeats 2000000 in
theorem pval_uns67 (a : Option Addr) (len cap : Nat) (b : Nat → Nat) (ea : Addr) (w : World) (h : IsBytes w a len cap b) (hE : w.cell? ⟨0, 0, none⟩ = some (.iface 72 (.pointer (some ea)))) :
    Calls Ybaf.prog 7 #[.int .u8 67, .slice a len cap] w fun e w' => e = .returned (.tuple #[.agg #[.int .u8 67, .int .i64 0, .int .u64 (((unsAns b len 4294967295).getD 0 : Nat) : Int), .string ⟨#[]⟩, .slice none 0 0], errN (.iface 72 (.pointer (some ea))) (unsAns b len 4294967295)]) ∧ Below w.heap.size w w' := by
  have HP := hide (fun w' (hb : Below w.heap.size w w') => puns_any a len cap b 4294967295 ea w' (IsBytes.below h hb (Nat.le_refl _)) ((hb.cell (by exact cell_lt hE)).trans hE))
  generalize unsAns b len 4294967295 = A at HP ⊢
  generalize errN (.iface 72 (.pointer (some ea))) A = EV at HP ⊢
  go_enter Ybaf.func7, Ybaf.ntmps7
  go_wp2_with (go_at_call 18; refine (HP.out _ (((Below.refl _ _).alloc (Nat.le_refl _) _).alloc (by simp) _)).mono ?_; rintro e w' ⟨rfl, n, rfl⟩)
  have hb : Below w.heap.size w ((w.alloc (.cells #[.int .u8 0, .int .i64 0, .int .u64 0, .string ⟨#[]⟩, .slice none 0 0] 30)).alloc (.cells #[.int .u8 67, .int .i64 0, .int .u64 0, .string ⟨#[]⟩, .slice none 0 0] 30)) := ((Below.refl _ _).alloc (Nat.le_refl _) _).alloc (by simp) _
  exact bodyPost_ret (v := .tuple #[.agg #[.int .u8 67, .int .i64 0, .int .u64 ((A.getD 0 : Nat) : Int), .string ⟨#[]⟩, .slice none 0 0], EV]) (by simp [results, Ybaf.results7, go_sem]) rfl ⟨rfl, (((((((below_drewN hb n).setCell (by simp) _).setCell (by simp) _).setCell (by simp) _).setCell (by simp) _).setCell (by simp) _).setCell (by simp) _)⟩

set_option maxRecDepth 100000 in
set_option maxHeartbeats 2000000 in
theorem pval_uns70 (a : Option Addr) (len cap : Nat) (b : Nat → Nat) (ea : Addr) (w : World) (h : IsBytes w a len cap b) (hE : w.cell? ⟨0, 0, none⟩ = some (.iface 72 (.pointer (some ea)))) :
    Calls Ybaf.prog 7 #[.int .u8 70, .slice a len cap] w fun e w' => e = .returned (.tuple #[.agg #[.int .u8 70, .int .i64 0, .int .u64 (((unsAns b len 18446744073709551615).getD 0 : Nat) : Int), .string ⟨#[]⟩, .slice none 0 0], errN (.iface 72 (.pointer (some ea))) (unsAns b len 18446744073709551615)]) ∧ Below w.heap.size w w' := by
  have HP := hide (fun w' (hb : Below w.heap.size w w') => puns_any a len cap b 18446744073709551615 ea w' (IsBytes.below h hb (Nat.le_refl _)) ((hb.cell (by exact cell_lt hE)).trans hE))
  generalize unsAns b len 18446744073709551615 = A at HP ⊢
  generalize errN (.iface 72 (.pointer (some ea))) A = EV at HP ⊢
  go_enter Ybaf.func7, Ybaf.ntmps7
  go_wp2_with (go_at_call 18; refine (HP.out _ (((Below.refl _ _).alloc (Nat.le_refl _) _).alloc (by simp) _)).mono ?_; rintro e w' ⟨rfl, n, rfl⟩)
  have hb : Below w.heap.size w ((w.alloc (.cells #[.int .u8 0, .int .i64 0, .int .u64 0, .string ⟨#[]⟩, .slice none 0 0] 30)).alloc (.cells #[.int .u8 70, .int .i64 0, .int .u64 0, .string ⟨#[]⟩, .slice none 0 0] 30)) := ((Below.refl _ _).alloc (Nat.le_refl _) _).alloc (by simp) _
  exact bodyPost_ret (v := .tuple #[.agg #[.int .u8 70, .int .i64 0, .int .u64 ((A.getD 0 : Nat) : Int), .string ⟨#[]⟩, .slice none 0 0], EV]) (by simp [results, Ybaf.results7, go_sem]) rfl ⟨rfl, (((((((below_drewN hb n).setCell (by simp) _).setCell (by simp) _).setCell (by simp) _).setCell (by simp) _).setCell (by simp) _).setCell (by simp) _)⟩

end Go.Proofs.YbulkdtayFmt
