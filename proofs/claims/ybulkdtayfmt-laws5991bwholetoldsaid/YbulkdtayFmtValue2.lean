import Derived.Test.YbulkdtayFmtValue
namespace Go.Proofs.YbulkdtayFmt
open Go.RowKit Go.Extern.Stop Go.Stop Go.Extern

set_option maxRecDepth 100000 in
set_option maxHeartbeats 2000000 in
theorem pval_str4 (a : Option Addr) (len cap : Nat) (b : Nat → Nat) (w : World) (h : IsBytes w a len cap b) :
    Calls Ybaf.prog 7 #[.int .u8 4, .slice a len cap] w fun e w' => e = .returned (.tuple #[.agg #[.int .u8 4, .int .i64 0, .int .u64 0, .string (strB b len), .slice none 0 0], .nilIface]) ∧ Below w.heap.size w w' := by
  have hb : Below w.heap.size w ((w.alloc (.cells #[.int .u8 0, .int .i64 0, .int .u64 0, .string ⟨#[]⟩, .slice none 0 0] 30)).alloc (.cells #[.int .u8 4, .int .i64 0, .int .u64 0, .string ⟨#[]⟩, .slice none 0 0] 30)) := ((Below.refl _ _).alloc (Nat.le_refl _) _).alloc (by simp) _
  have hconv := conv_any (IsBytes.below h hb (Nat.le_refl _))
  generalize strB b len = S at hconv ⊢
  clear hb
  go_enter Ybaf.func7, Ybaf.ntmps7
  go_wp2
  exact bodyPost_ret (v := .tuple #[.agg #[.int .u8 4, .int .i64 0, .int .u64 0, .string S, .slice none 0 0], .nilIface]) (by simp [results, Ybaf.results7, go_sem]) rfl ⟨rfl, ((Below.refl _ _).alloc (Nat.le_refl _) _).alloc (by simp) _⟩

set_option maxRecDepth 100000 in
set_option maxHeartbeats 2000000 in
theorem pval_str68 (a : Option Addr) (len cap : Nat) (b : Nat → Nat) (w : World) (h : IsBytes w a len cap b) :
    Calls Ybaf.prog 7 #[.int .u8 68, .slice a len cap] w fun e w' => e = .returned (.tuple #[.agg #[.int .u8 68, .int .i64 0, .int .u64 0, .string (strB b len), .slice none 0 0], .nilIface]) ∧ Below w.heap.size w w' := by
  have hb : Below w.heap.size w ((w.alloc (.cells #[.int .u8 0, .int .i64 0, .int .u64 0, .string ⟨#[]⟩, .slice none 0 0] 30)).alloc (.cells #[.int .u8 68, .int .i64 0, .int .u64 0, .string ⟨#[]⟩, .slice none 0 0] 30)) := ((Below.refl _ _).alloc (Nat.le_refl _) _).alloc (by simp) _
  have hconv := conv_any (IsBytes.below h hb (Nat.le_refl _))
  generalize strB b len = S at hconv ⊢
  clear hb
  go_enter Ybaf.func7, Ybaf.ntmps7
  go_wp2
  exact bodyPost_ret (v := .tuple #[.agg #[.int .u8 68, .int .i64 0, .int .u64 0, .string S, .slice none 0 0], .nilIface]) (by simp [results, Ybaf.results7, go_sem]) rfl ⟨rfl, ((Below.refl _ _).alloc (Nat.le_refl _) _).alloc (by simp) _⟩

set_option maxRecDepth 100000 in
set_option maxHeartbeats 2000000 in
theorem pval_ip_ok (a : Option Addr) (len cap : Nat) (b : Nat → Nat) (ea : Addr) (w : World) (h : IsBytes w a len cap b) (hE : w.cell? ⟨0, 0, none⟩ = some (.iface 72 (.pointer (some ea)))) (hlen : len = 4) :
    Calls Ybaf.prog 7 #[.int .u8 64, .slice a len cap] w fun e w' => e = .returned (.tuple #[.agg #[.int .u8 64, .int .i64 0, .int .u64 0, .string (strB b len), .slice none 0 0], .nilIface]) ∧ Below w.heap.size w w' := by
  have hb : Below w.heap.size w ((w.alloc (.cells #[.int .u8 0, .int .i64 0, .int .u64 0, .string ⟨#[]⟩, .slice none 0 0] 30)).alloc (.cells #[.int .u8 64, .int .i64 0, .int .u64 0, .string ⟨#[]⟩, .slice none 0 0] 30)) := ((Below.refl _ _).alloc (Nat.le_refl _) _).alloc (by simp) _
  have hconv := conv_any (IsBytes.below h hb (Nat.le_refl _))
  generalize strB b len = S at hconv ⊢
  have hE2 := (hb.cell (p := ⟨0, 0, none⟩) (by exact cell_lt hE)).trans hE
  subst hlen
  clear hb
  go_enter Ybaf.func7, Ybaf.ntmps7
  go_wp2
  exact bodyPost_ret (v := .tuple #[.agg #[.int .u8 64, .int .i64 0, .int .u64 0, .string S, .slice none 0 0], .nilIface]) (by simp [results, Ybaf.results7, go_sem]) rfl ⟨rfl, ((Below.refl _ _).alloc (Nat.le_refl _) _).alloc (by simp) _⟩

set_option maxRecDepth 100000 in
set_option maxHeartbeats 2000000 in
theorem pval_ip_bad (a : Option Addr) (len cap : Nat) (b : Nat → Nat) (ea : Addr) (w : World) (h : IsBytes w a len cap b) (hE : w.cell? ⟨0, 0, none⟩ = some (.iface 72 (.pointer (some ea)))) (hlen : ¬ len = 4) :
    Calls Ybaf.prog 7 #[.int .u8 64, .slice a len cap] w fun e w' => e = .returned (.tuple #[.agg #[.int .u8 64, .int .i64 0, .int .u64 0, .string (strB b len), .slice none 0 0], .iface 72 (.pointer (some ea))]) ∧ Below w.heap.size w w' := by
  have hb : Below w.heap.size w ((w.alloc (.cells #[.int .u8 0, .int .i64 0, .int .u64 0, .string ⟨#[]⟩, .slice none 0 0] 30)).alloc (.cells #[.int .u8 64, .int .i64 0, .int .u64 0, .string ⟨#[]⟩, .slice none 0 0] 30)) := ((Below.refl _ _).alloc (Nat.le_refl _) _).alloc (by simp) _
  have hconv := conv_any (IsBytes.below h hb (Nat.le_refl _))
  generalize strB b len = S at hconv ⊢
  have hE2 := (hb.cell (p := ⟨0, 0, none⟩) (by exact cell_lt hE)).trans hE
  have hlen' : ((len : Int) != 4) = true := by simp; omega
  clear hb
  go_enter Ybaf.func7, Ybaf.ntmps7
  go_wp2
  exact bodyPost_ret (v := .tuple #[.agg #[.int .u8 64, .int .i64 0, .int .u64 0, .string S, .slice none 0 0], .iface 72 (.pointer (some ea))]) (by simp [results, Ybaf.results7, go_sem]) rfl ⟨rfl, ((Below.refl _ _).alloc (Nat.le_refl _) _).alloc (by simp) _⟩

set_option maxRecDepth 100000 in
set_option maxHeartbeats 2000000 in
theorem pval_null5_ok (a : Option Addr) (len cap : Nat) (ea : Addr) (w : World) (hE : w.cell? ⟨0, 0, none⟩ = some (.iface 72 (.pointer (some ea)))) (hlen : len = 0) :
    Calls Ybaf.prog 7 #[.int .u8 5, .slice a len cap] w fun e w' => e = .returned (.tuple #[.agg #[.int .u8 5, .int .i64 0, .int .u64 0, .string ⟨#[]⟩, .slice none 0 0], .nilIface]) ∧ Below w.heap.size w w' := by
  have hb : Below w.heap.size w ((w.alloc (.cells #[.int .u8 0, .int .i64 0, .int .u64 0, .string ⟨#[]⟩, .slice none 0 0] 30)).alloc (.cells #[.int .u8 5, .int .i64 0, .int .u64 0, .string ⟨#[]⟩, .slice none 0 0] 30)) := ((Below.refl _ _).alloc (Nat.le_refl _) _).alloc (by simp) _
  have hE2 := (hb.cell (p := ⟨0, 0, none⟩) (by exact cell_lt hE)).trans hE
  subst hlen
  clear hb
  go_enter Ybaf.func7, Ybaf.ntmps7
  go_wp2
  exact bodyPost_ret (v := .tuple #[.agg #[.int .u8 5, .int .i64 0, .int .u64 0, .string ⟨#[]⟩, .slice none 0 0], .nilIface]) (by simp [results, Ybaf.results7, go_sem]) rfl ⟨rfl, ((Below.refl _ _).alloc (Nat.le_refl _) _).alloc (by simp) _⟩

set_option maxRecDepth 100000 in
set_option maxHeartbeats 2000000 in
theorem pval_null5_bad (a : Option Addr) (len cap : Nat) (ea : Addr) (w : World) (hE : w.cell? ⟨0, 0, none⟩ = some (.iface 72 (.pointer (some ea)))) (hlen : ¬ len = 0) :
    Calls Ybaf.prog 7 #[.int .u8 5, .slice a len cap] w fun e w' => e = .returned (.tuple #[.agg #[.int .u8 5, .int .i64 0, .int .u64 0, .string ⟨#[]⟩, .slice none 0 0], .iface 72 (.pointer (some ea))]) ∧ Below w.heap.size w w' := by
  have hb : Below w.heap.size w ((w.alloc (.cells #[.int .u8 0, .int .i64 0, .int .u64 0, .string ⟨#[]⟩, .slice none 0 0] 30)).alloc (.cells #[.int .u8 5, .int .i64 0, .int .u64 0, .string ⟨#[]⟩, .slice none 0 0] 30)) := ((Below.refl _ _).alloc (Nat.le_refl _) _).alloc (by simp) _
  have hE2 := (hb.cell (p := ⟨0, 0, none⟩) (by exact cell_lt hE)).trans hE
  have hlen' : ((len : Int) != 0) = true := by simp; omega
  clear hb
  go_enter Ybaf.func7, Ybaf.ntmps7
  go_wp2
  exact bodyPost_ret (v := .tuple #[.agg #[.int .u8 5, .int .i64 0, .int .u64 0, .string ⟨#[]⟩, .slice none 0 0], .iface 72 (.pointer (some ea))]) (by simp [results, Ybaf.results7, go_sem]) rfl ⟨rfl, ((Below.refl _ _).alloc (Nat.le_refl _) _).alloc (by simp) _⟩

set_option maxRecDepth 100000 in
set_option maxHeartbeats 2000000 in
theorem pval_null128_ok (a : Option Addr) (len cap : Nat) (ea : Addr) (w : World) (hE : w.cell? ⟨0, 0, none⟩ = some (.iface 72 (.pointer (some ea)))) (hlen : len = 0) :
    Calls Ybaf.prog 7 #[.int .u8 128, .slice a len cap] w fun e w' => e = .returned (.tuple #[.agg #[.int .u8 128, .int .i64 0, .int .u64 0, .string ⟨#[]⟩, .slice none 0 0], .nilIface]) ∧ Below w.heap.size w w' := by
  have hb : Below w.heap.size w ((w.alloc (.cells #[.int .u8 0, .int .i64 0, .int .u64 0, .string ⟨#[]⟩, .slice none 0 0] 30)).alloc (.cells #[.int .u8 128, .int .i64 0, .int .u64 0, .string ⟨#[]⟩, .slice none 0 0] 30)) := ((Below.refl _ _).alloc (Nat.le_refl _) _).alloc (by simp) _
  have hE2 := (hb.cell (p := ⟨0, 0, none⟩) (by exact cell_lt hE)).trans hE
  subst hlen
  clear hb
  go_enter Ybaf.func7, Ybaf.ntmps7
  go_wp2
  exact bodyPost_ret (v := .tuple #[.agg #[.int .u8 128, .int .i64 0, .int .u64 0, .string ⟨#[]⟩, .slice none 0 0], .nilIface]) (by simp [results, Ybaf.results7, go_sem]) rfl ⟨rfl, ((Below.refl _ _).alloc (Nat.le_refl _) _).alloc (by simp) _⟩

set_option maxRecDepth 100000 in
set_option maxHeartbeats 2000000 in
theorem pval_null128_bad (a : Option Addr) (len cap : Nat) (ea : Addr) (w : World) (hE : w.cell? ⟨0, 0, none⟩ = some (.iface 72 (.pointer (some ea)))) (hlen : ¬ len = 0) :
    Calls Ybaf.prog 7 #[.int .u8 128, .slice a len cap] w fun e w' => e = .returned (.tuple #[.agg #[.int .u8 128, .int .i64 0, .int .u64 0, .string ⟨#[]⟩, .slice none 0 0], .iface 72 (.pointer (some ea))]) ∧ Below w.heap.size w w' := by
  have hb : Below w.heap.size w ((w.alloc (.cells #[.int .u8 0, .int .i64 0, .int .u64 0, .string ⟨#[]⟩, .slice none 0 0] 30)).alloc (.cells #[.int .u8 128, .int .i64 0, .int .u64 0, .string ⟨#[]⟩, .slice none 0 0] 30)) := ((Below.refl _ _).alloc (Nat.le_refl _) _).alloc (by simp) _
  have hE2 := (hb.cell (p := ⟨0, 0, none⟩) (by exact cell_lt hE)).trans hE
  have hlen' : ((len : Int) != 0) = true := by simp; omega
  clear hb
  go_enter Ybaf.func7, Ybaf.ntmps7
  go_wp2
  exact bodyPost_ret (v := .tuple #[.agg #[.int .u8 128, .int .i64 0, .int .u64 0, .string ⟨#[]⟩, .slice none 0 0], .iface 72 (.pointer (some ea))]) (by simp [results, Ybaf.results7, go_sem]) rfl ⟨rfl, ((Below.refl _ _).alloc (Nat.le_refl _) _).alloc (by simp) _⟩

set_option maxRecDepth 100000 in
set_option maxHeartbeats 2000000 in
theorem pval_null129_ok (a : Option Addr) (len cap : Nat) (ea : Addr) (w : World) (hE : w.cell? ⟨0, 0, none⟩ = some (.iface 72 (.pointer (some ea)))) (hlen : len = 0) :
    Calls Ybaf.prog 7 #[.int .u8 129, .slice a len cap] w fun e w' => e = .returned (.tuple #[.agg #[.int .u8 129, .int .i64 0, .int .u64 0, .string ⟨#[]⟩, .slice none 0 0], .nilIface]) ∧ Below w.heap.size w w' := by
  have hb : Below w.heap.size w ((w.alloc (.cells #[.int .u8 0, .int .i64 0, .int .u64 0, .string ⟨#[]⟩, .slice none 0 0] 30)).alloc (.cells #[.int .u8 129, .int .i64 0, .int .u64 0, .string ⟨#[]⟩, .slice none 0 0] 30)) := ((Below.refl _ _).alloc (Nat.le_refl _) _).alloc (by simp) _
  have hE2 := (hb.cell (p := ⟨0, 0, none⟩) (by exact cell_lt hE)).trans hE
  subst hlen
  clear hb
  go_enter Ybaf.func7, Ybaf.ntmps7
  go_wp2
  exact bodyPost_ret (v := .tuple #[.agg #[.int .u8 129, .int .i64 0, .int .u64 0, .string ⟨#[]⟩, .slice none 0 0], .nilIface]) (by simp [results, Ybaf.results7, go_sem]) rfl ⟨rfl, ((Below.refl _ _).alloc (Nat.le_refl _) _).alloc (by simp) _⟩

set_option maxRecDepth 100000 in
set_option maxHeartbeats 2000000 in
theorem pval_null129_bad (a : Option Addr) (len cap : Nat) (ea : Addr) (w : World) (hE : w.cell? ⟨0, 0, none⟩ = some (.iface 72 (.pointer (some ea)))) (hlen : ¬ len = 0) :
    Calls Ybaf.prog 7 #[.int .u8 129, .slice a len cap] w fun e w' => e = .returned (.tuple #[.agg #[.int .u8 129, .int .i64 0, .int .u64 0, .string ⟨#[]⟩, .slice none 0 0], .iface 72 (.pointer (some ea))]) ∧ Below w.heap.size w w' := by
  have hb : Below w.heap.size w ((w.alloc (.cells #[.int .u8 0, .int .i64 0, .int .u64 0, .string ⟨#[]⟩, .slice none 0 0] 30)).alloc (.cells #[.int .u8 129, .int .i64 0, .int .u64 0, .string ⟨#[]⟩, .slice none 0 0] 30)) := ((Below.refl _ _).alloc (Nat.le_refl _) _).alloc (by simp) _
  have hE2 := (hb.cell (p := ⟨0, 0, none⟩) (by exact cell_lt hE)).trans hE
  have hlen' : ((len : Int) != 0) = true := by simp; omega
  clear hb
  go_enter Ybaf.func7, Ybaf.ntmps7
  go_wp2
  exact bodyPost_ret (v := .tuple #[.agg #[.int .u8 129, .int .i64 0, .int .u64 0, .string ⟨#[]⟩, .slice none 0 0], .iface 72 (.pointer (some ea))]) (by simp [results, Ybaf.results7, go_sem]) rfl ⟨rfl, ((Below.refl _ _).alloc (Nat.le_refl _) _).alloc (by simp) _⟩

set_option maxRecDepth 100000 in
set_option maxHeartbeats 2000000 in
theorem pval_null130_ok (a : Option Addr) (len cap : Nat) (ea : Addr) (w : World) (hE : w.cell? ⟨0, 0, none⟩ = some (.iface 72 (.pointer (some ea)))) (hlen : len = 0) :
    Calls Ybaf.prog 7 #[.int .u8 130, .slice a len cap] w fun e w' => e = .returned (.tuple #[.agg #[.int .u8 130, .int .i64 0, .int .u64 0, .string ⟨#[]⟩, .slice none 0 0], .nilIface]) ∧ Below w.heap.size w w' := by
  have hb : Below w.heap.size w ((w.alloc (.cells #[.int .u8 0, .int .i64 0, .int .u64 0, .string ⟨#[]⟩, .slice none 0 0] 30)).alloc (.cells #[.int .u8 130, .int .i64 0, .int .u64 0, .string ⟨#[]⟩, .slice none 0 0] 30)) := ((Below.refl _ _).alloc (Nat.le_refl _) _).alloc (by simp) _
  have hE2 := (hb.cell (p := ⟨0, 0, none⟩) (by exact cell_lt hE)).trans hE
  subst hlen
  clear hb
  go_enter Ybaf.func7, Ybaf.ntmps7
  go_wp2
  exact bodyPost_ret (v := .tuple #[.agg #[.int .u8 130, .int .i64 0, .int .u64 0, .string ⟨#[]⟩, .slice none 0 0], .nilIface]) (by simp [results, Ybaf.results7, go_sem]) rfl ⟨rfl, ((Below.refl _ _).alloc (Nat.le_refl _) _).alloc (by simp) _⟩

set_option maxRecDepth 100000 in
set_option maxHeartbeats 2000000 in
theorem pval_null130_bad (a : Option Addr) (len cap : Nat) (ea : Addr) (w : World) (hE : w.cell? ⟨0, 0, none⟩ = some (.iface 72 (.pointer (some ea)))) (hlen : ¬ len = 0) :
    Calls Ybaf.prog 7 #[.int .u8 130, .slice a len cap] w fun e w' => e = .returned (.tuple #[.agg #[.int .u8 130, .int .i64 0, .int .u64 0, .string ⟨#[]⟩, .slice none 0 0], .iface 72 (.pointer (some ea))]) ∧ Below w.heap.size w w' := by
  have hb : Below w.heap.size w ((w.alloc (.cells #[.int .u8 0, .int .i64 0, .int .u64 0, .string ⟨#[]⟩, .slice none 0 0] 30)).alloc (.cells #[.int .u8 130, .int .i64 0, .int .u64 0, .string ⟨#[]⟩, .slice none 0 0] 30)) := ((Below.refl _ _).alloc (Nat.le_refl _) _).alloc (by simp) _
  have hE2 := (hb.cell (p := ⟨0, 0, none⟩) (by exact cell_lt hE)).trans hE
  have hlen' : ((len : Int) != 0) = true := by simp; omega
  clear hb
  go_enter Ybaf.func7, Ybaf.ntmps7
  go_wp2
  exact bodyPost_ret (v := .tuple #[.agg #[.int .u8 130, .int .i64 0, .int .u64 0, .string ⟨#[]⟩, .slice none 0 0], .iface 72 (.pointer (some ea))]) (by simp [results, Ybaf.results7, go_sem]) rfl ⟨rfl, ((Below.refl _ _).alloc (Nat.le_refl _) _).alloc (by simp) _⟩

set_option maxRecDepth 100000 in
set_option maxHeartbeats 2000000 in
theorem pval_other (a : Option Addr) (len cap : Nat) (ea : Addr) (w : World) (hE : w.cell? ⟨0, 0, none⟩ = some (.iface 72 (.pointer (some ea)))) (t : Nat) (hno : ∀ k ∈ [2, 4, 68, 64, 6, 65, 66, 67, 70, 5, 128, 129, 130], t ≠ k) :
    Calls Ybaf.prog 7 #[.int .u8 (t : Int), .slice a len cap] w fun e w' => e = .returned (.tuple #[.agg #[.int .u8 (t : Int), .int .i64 0, .int .u64 0, .string ⟨#[]⟩, .slice none 0 0], .iface 72 (.pointer (some ea))]) ∧ Below w.heap.size w w' := by
  have hb : Below w.heap.size w ((w.alloc (.cells #[.int .u8 0, .int .i64 0, .int .u64 0, .string ⟨#[]⟩, .slice none 0 0] 30)).alloc (.cells #[.int .u8 (t : Int), .int .i64 0, .int .u64 0, .string ⟨#[]⟩, .slice none 0 0] 30)) := ((Below.refl _ _).alloc (Nat.le_refl _) _).alloc (by simp) _
  have hE2 := (hb.cell (p := ⟨0, 0, none⟩) (by exact cell_lt hE)).trans hE
  have h2 : ((t : Int) == 2) = false := by rw [beq_eq_false_iff_ne]; have := hno 2 (by simp); omega
  have h4 : ((t : Int) == 4) = false := by rw [beq_eq_false_iff_ne]; have := hno 4 (by simp); omega
  have h68 : ((t : Int) == 68) = false := by rw [beq_eq_false_iff_ne]; have := hno 68 (by simp); omega
  have h64 : ((t : Int) == 64) = false := by rw [beq_eq_false_iff_ne]; have := hno 64 (by simp); omega
  have h6 : ((t : Int) == 6) = false := by rw [beq_eq_false_iff_ne]; have := hno 6 (by simp); omega
  have h65 : ((t : Int) == 65) = false := by rw [beq_eq_false_iff_ne]; have := hno 65 (by simp); omega
  have h66 : ((t : Int) == 66) = false := by rw [beq_eq_false_iff_ne]; have := hno 66 (by simp); omega
  have h67 : ((t : Int) == 67) = false := by rw [beq_eq_false_iff_ne]; have := hno 67 (by simp); omega
  have h70 : ((t : Int) == 70) = false := by rw [beq_eq_false_iff_ne]; have := hno 70 (by simp); omega
  have h5 : ((t : Int) == 5) = false := by rw [beq_eq_false_iff_ne]; have := hno 5 (by simp); omega
  have h128 : ((t : Int) == 128) = false := by rw [beq_eq_false_iff_ne]; have := hno 128 (by simp); omega
  have h129 : ((t : Int) == 129) = false := by rw [beq_eq_false_iff_ne]; have := hno 129 (by simp); omega
  have h130 : ((t : Int) == 130) = false := by rw [beq_eq_false_iff_ne]; have := hno 130 (by simp); omega
  clear hno
  clear hb
  go_enter Ybaf.func7, Ybaf.ntmps7
  go_wp2
  exact bodyPost_ret (v := .tuple #[.agg #[.int .u8 (t : Int), .int .i64 0, .int .u64 0, .string ⟨#[]⟩, .slice none 0 0], .iface 72 (.pointer (some ea))]) (by simp [results, Ybaf.results7, go_sem]) rfl ⟨rfl, ((Below.refl _ _).alloc (Nat.le_refl _) _).alloc (by simp) _⟩

end Go.Proofs.YbulkdtayFmt
