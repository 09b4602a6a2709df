import Derived.Test.YbulkdtayFmtValue2
namespace Go.Proofs.YbulkdtayFmt
open Go.RowKit Go.Extern.Stop Go.Stop Go.Extern

theorem OidRow.keep {w w' : World} {v : Value} {o : Option (List Nat)} (h : OidRow w v o) {k1 k2 : Nat} {x1 x2 : Int} (c1 : w.cell? ⟨k1, 0, none⟩ = some (.int .u8 x1)) (c2 : w.cell? ⟨k2, 0, none⟩ = some (.int .u8 x2)) (hs : w'.heap.size = w.heap.size) (hk : ∀ k, k ≠ k1 → k ≠ k2 → w'.heap[k]? = w.heap[k]?) : OidRow w' v o := by
  cases o with
  | none => exact h
  | some l =>
    obtain ⟨g, cap, rfl, hg, hl, hc⟩ := h
    refine ⟨g, cap, rfl, by omega, hl, fun j hj => ?_⟩
    have h0 := hc 0 (by omega)
    rw [World.cell?_of_block (w := w) (hk g (fun e => by subst e; rw [c1] at h0; cases h0) (fun e => by subst e; rw [c2] at h0; cases h0))]
    exact hc j hj

theorem OidRow.form {w : World} {v : Value} {o : Option (List Nat)} (h : OidRow w v o) : ∃ p n c, v = .slice p n c := by
  cases o with
  | none => exact ⟨_, _, _, h⟩
  | some l =>
    obtain ⟨g, cap, rfl, _⟩ := h
    exact ⟨_, _, _, rfl⟩

set_option maxRecDepth 100000 in
set_option maxHeartbeats 2000000 in
theorem pval_oid (F : Interp) (a : Option Addr) (len cap : Nat) (b : Nat → Nat) (ea : Addr) (w : World) (hF : F.answers w.tape) (h : IsBytes w a len cap b) (hlen : len ≤ 1048576) (hE : w.cell? ⟨0, 0, none⟩ = some (.iface 72 (.pointer (some ea)))) :
    Calls Ybaf.prog 7 #[.int .u8 6, .slice a len cap] w fun e w' => ∃ v, e = .returned (.tuple #[.agg #[.int .u8 6, .int .i64 0, .int .u64 0, .string ⟨#[]⟩, v], errO (.iface 72 (.pointer (some ea))) (oidAns b len)]) ∧ OidRow w' v (oidAns b len) ∧ Below w.heap.size w w' := by
  have hb : Below w.heap.size w ((w.alloc (.cells #[.int .u8 0, .int .i64 0, .int .u64 0, .string ⟨#[]⟩, .slice none 0 0] 30)).alloc (.cells #[.int .u8 6, .int .i64 0, .int .u64 0, .string ⟨#[]⟩, .slice none 0 0] 30)) := ((Below.refl _ _).alloc (Nat.le_refl _) _).alloc (by simp) _
  have hs : ((w.alloc (.cells #[.int .u8 0, .int .i64 0, .int .u64 0, .string ⟨#[]⟩, .slice none 0 0] 30)).alloc (.cells #[.int .u8 6, .int .i64 0, .int .u64 0, .string ⟨#[]⟩, .slice none 0 0] 30)).heap.size = w.heap.size + 2 := by simp
  have hP := poid_any F a len cap b ea _ (by rw [hb.tape]; exact hF) (IsBytes.below h hb (Nat.le_refl _)) hlen ((hb.cell (p := ⟨0, 0, none⟩) (by exact cell_lt hE)).trans hE)
  have h0 : ((w.alloc (.cells #[.int .u8 0, .int .i64 0, .int .u64 0, .string ⟨#[]⟩, .slice none 0 0] 30)).alloc (.cells #[.int .u8 6, .int .i64 0, .int .u64 0, .string ⟨#[]⟩, .slice none 0 0] 30)).heap[w.heap.size]? = some (.cells #[.int .u8 0, .int .i64 0, .int .u64 0, .string ⟨#[]⟩, .slice none 0 0] 30 (0, 0)) := by
    rw [Below.heap_alloc _ _ _ (by simp)]; exact heap_alloc_new _ _
  have h1 : ((w.alloc (.cells #[.int .u8 0, .int .i64 0, .int .u64 0, .string ⟨#[]⟩, .slice none 0 0] 30)).alloc (.cells #[.int .u8 6, .int .i64 0, .int .u64 0, .string ⟨#[]⟩, .slice none 0 0] 30)).heap[w.heap.size + 1]? = some (.cells #[.int .u8 6, .int .i64 0, .int .u64 0, .string ⟨#[]⟩, .slice none 0 0] 30 (0, 0)) := by
    have := heap_alloc_new (w.alloc (.cells #[.int .u8 0, .int .i64 0, .int .u64 0, .string ⟨#[]⟩, .slice none 0 0] 30)) (.cells #[.int .u8 6, .int .i64 0, .int .u64 0, .string ⟨#[]⟩, .slice none 0 0] 30)
    simpa using this
  have HP := hide hP
  have HB := hide hb
  have HS := hide hs
  have H0 := hide h0
  have H1 := hide h1
  clear hP hb hs h0 h1
  generalize oidAns b len = A at HP ⊢
  generalize errO (.iface 72 (.pointer (some ea))) A = EV at HP ⊢
  go_enter Ybaf.func7, Ybaf.ntmps7
  go_wp2_with fail
  refine HP.out.mono ?_
  rintro e w2 ⟨v, rfl, hrow, hbel⟩
  have k0 : w2.heap[w.heap.size]? = some (.cells #[.int .u8 0, .int .i64 0, .int .u64 0, .string ⟨#[]⟩, .slice none 0 0] 30 (0, 0)) := by rw [hbel.block _ (by rw [HS.out]; omega)]; exact H0.out
  have k1 : w2.heap[w.heap.size + 1]? = some (.cells #[.int .u8 6, .int .i64 0, .int .u64 0, .string ⟨#[]⟩, .slice none 0 0] 30 (0, 0)) := by rw [hbel.block _ (by rw [HS.out]; omega)]; exact H1.out
  have HW2 := hide (HB.out.trans (hbel.mono (by rw [HS.out]; omega)))
  have HR := hide hrow
  obtain ⟨vp, vn, vc, rfl⟩ := hrow.form
  clear hrow hbel
  have a0 : w2.cell? ⟨w.heap.size, 0, none⟩ = some (.int .u8 0) := by rw [cell_at k0]; rfl
  have a1 : w2.cell? ⟨w.heap.size, 1, none⟩ = some (.int .i64 0) := by rw [cell_at k0]; rfl
  have a2 : w2.cell? ⟨w.heap.size, 2, none⟩ = some (.int .u64 0) := by rw [cell_at k0]; rfl
  have a3 : w2.cell? ⟨w.heap.size, 3, none⟩ = some (.string ⟨#[]⟩) := by rw [cell_at k0]; rfl
  have a4 : w2.cell? ⟨w.heap.size, 4, none⟩ = some (.slice none 0 0) := by rw [cell_at k0]; rfl
  have b0 : w2.cell? ⟨w.heap.size + 1, 0, none⟩ = some (.int .u8 6) := by rw [cell_at k1]; rfl
  have b1 : w2.cell? ⟨w.heap.size + 1, 1, none⟩ = some (.int .i64 0) := by rw [cell_at k1]; rfl
  have b2 : w2.cell? ⟨w.heap.size + 1, 2, none⟩ = some (.int .u64 0) := by rw [cell_at k1]; rfl
  have b3 : w2.cell? ⟨w.heap.size + 1, 3, none⟩ = some (.string ⟨#[]⟩) := by rw [cell_at k1]; rfl
  have b4 : w2.cell? ⟨w.heap.size + 1, 4, none⟩ = some (.slice none 0 0) := by rw [cell_at k1]; rfl
  have f0 := fun j => frozen_at k0 j
  have f1 := fun j => frozen_at k1 j
  have HK0 := hide k0
  have HK1 := hide k1
  clear k0 k1
  generalize hBB : w.heap.size = B at *
  have HBB := hide hBB
  clear hBB
  go_wp2
  refine bodyPost_ret (v := .tuple #[.agg #[.int .u8 6, .int .i64 0, .int .u64 0, .string ⟨#[]⟩, .slice vp vn vc], EV]) (by simp [results, Ybaf.results7, go_sem, a0, a1, a2, a3, a4]) rfl ⟨_, rfl, ?_, ?_⟩
  · refine HR.out.keep a0 b0 (by simp [World.setCell]) (fun k h1 h2 => ?_)
    rw [Below.heap_setCell _ _ _ _ h1, Below.heap_setCell _ _ _ _ h1, Below.heap_setCell _ _ _ _ h1, Below.heap_setCell _ _ _ _ h1, Below.heap_setCell _ _ _ _ h1, Below.heap_setCell _ _ _ _ h2]
  · rw [HBB.out]
    exact (((((HW2.out.setCell (p := ⟨B + 1, 4, none⟩) (Nat.le_succ _) _).setCell (p := ⟨B, 0, none⟩) (Nat.le_refl _) _).setCell (p := ⟨B, 1, none⟩) (Nat.le_refl _) _).setCell (p := ⟨B, 2, none⟩) (Nat.le_refl _) _).setCell (p := ⟨B, 3, none⟩) (Nat.le_refl _) _).setCell (p := ⟨B, 4, none⟩) (Nat.le_refl _) _
end Go.Proofs.YbulkdtayFmt
