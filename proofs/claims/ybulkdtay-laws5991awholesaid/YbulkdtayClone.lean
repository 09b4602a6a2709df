import Derived.Test.YbulkdtaySetc
import Derived.Deep.AppendLies
import Derived.Laws.Cover3
namespace Go.Proofs.Ybulkdtay
open Go.RowKit

theorem cell_lt {w : World} {b off : Nat} {v : Value} (h : w.cell? ⟨b, off, none⟩ = some v) : b < w.heap.size := by
  by_cases hb : b < w.heap.size
  · exact hb
  · simp [World.cell?, Array.getElem?_eq_none (Nat.le_of_not_lt hb)] at h

def vals (k : IntKind) (zs : List Int) : List Value := zs.map (Value.int k)
theorem vals_at (k : IntKind) (zs : List Int) (j : Nat) (h : j < zs.length) : (vals k zs)[j]? = some (.int k (zs[j]?.getD 0)) := by
  simp [vals, h]
theorem own0 (E : TypeId) (w : World) : (w.alloc (.cells #[] E)).ownsRow w.heap.size E 1 (.slice (some ⟨w.heap.size, 0, none⟩) 0 0) 0 [] :=
  ⟨rfl, .inr ⟨w.heap.size, 0, #[], rfl, Nat.le_refl _, World.alloc_heap_new _ _, Nat.le_refl _, Nat.zero_le _, rfl, rfl⟩⟩
theorem rd_of_own {k : IntKind} {E : TypeId} {w : World} {base g cap : Nat} {zs : List Int} (h : w.ownsRow base E 1 (.slice (some ⟨g, 0, none⟩) zs.length cap) zs.length (vals k zs)) : Rd k w.heap.size w (some ⟨g, 0, none⟩) zs.length cap zs := by
  rcases h.2 with ⟨h', _⟩ | ⟨g', cap', cur, h', hbb, hg, hc, hm, hs, ht⟩
  · cases h'
  · cases h'
    refine ⟨rfl, hc, fun h => by (cases h), .inr ⟨g, 0, rfl, (Array.getElem?_eq_some_iff.1 hg).1, fun j hj => ?_⟩⟩
    rw [cell_at hg, Nat.zero_add]
    rw [Nat.mul_one] at ht
    have e := congrArg (fun l => l[j]?) ht
    simp only [List.getElem?_take, hj, if_true] at e
    rw [← Array.getElem?_toList, e, vals_at k zs j hj]

theorem eql_nil (T E : TypeId) (hT : Yba.prog.underlying T = some (.slice E)) (a : Option Addr) (l c : Nat) (w : World) : (binOp .eql T (.slice a l c) (.slice none 0 0)).run Yba.prog w = .ok (.bool a.isNone) w := by
  simp only [binOp]
  simp [run_equal_slice_nil w T E a l c hT]
theorem info25 : (Yba.prog.info? 25).map (fun i => (i.zero, i.size, i.bytes)) = some (some (.int .u32 0), 1, 4) := by kernel_rfl

theorem clone5_nil (cap : Nat) (w : World) : Calls Yba.prog 5 #[.slice none 0 cap] w fun e w' => e = .returned (.slice none 0 0) ∧ w' = w := by
  have hq := eql_nil 23 21 Yba.underlying23
  go_enter Yba.func5, Yba.ntmps5
  go_wp2
  go_ret
  exact ⟨rfl, rfl⟩
theorem clone5_zero (x : Addr) (cap : Nat) (w : World) : Calls Yba.prog 5 #[.slice (some x) 0 cap] w fun e w' => (∃ y, e = .returned (.slice (some y) 0 0)) ∧ Below w.heap.size w w' := by
  have hq := eql_nil 23 21 Yba.underlying23
  go_enter Yba.func5, Yba.ntmps5
  go_wp2
  go_ret
  exact ⟨⟨_, rfl⟩, (Below.refl _ _).alloc (Nat.le_refl _) _⟩
set_option maxRecDepth 100000 in
theorem clone5_pos (g off cap : Nat) (zs : List Int) (w : World) (hp : 0 < zs.length) (hlen : zs.length ≤ 1048576) (hcell : ∀ j, j < zs.length → w.cell? ⟨g, off + j, none⟩ = some (.int .i32 (zs[j]?.getD 0))) :
    Calls Yba.prog 5 #[.slice (some ⟨g, off, none⟩) zs.length cap] w fun e w' => (∃ g2 cap2, e = .returned (.slice (some ⟨g2, 0, none⟩) zs.length cap2) ∧ Rd .i32 w'.heap.size w' (some ⟨g2, 0, none⟩) zs.length cap2 zs) ∧ Below w.heap.size w w' := by
  have hq := eql_nil 23 21 Yba.underlying23
  obtain ⟨i0, hi, hz0, hz1, hz2⟩ := info_parts info21
  have HO := hide (own0 21 w)
  have HC : Hid (∀ j u, (vals .i32 zs)[j]? = some u → (w.alloc (.cells #[] 21)).cell? ((⟨g, off, none⟩ : Addr).add j) = some u) := hide (fun j u hu => by
    have hj : j < zs.length := by
      have := (List.getElem?_eq_some_iff.1 hu).1
      simpa [vals] using this
    rw [vals_at .i32 zs j hj] at hu
    rw [Addr.add_lit, ← hu, ← hcell j hj]
    exact World.cell?_of_block (w := w) (Below.heap_alloc _ _ _ (cell_lt (hcell j hj))))
  clear hcell
  go_enter Yba.func5, Yba.ntmps5
  go_wp2_with (at_builtin; refine wpList_append_lies _ rfl _ _ 23 rfl w.heap.size 21 i0 (.int .i32 0) 1 4 Yba.underlying23 hi hz0 hz1 hz2 rfl (by decide) _ 0 [] rfl HO.out ⟨g, off, none⟩ zs.length _ (vals .i32 zs) rfl (by simp [vals]) HC.out (fun u hu => by simp [vals] at hu; obtain ⟨x, _, rfl⟩ := hu; rfl) hp (by unfold maxLen; omega) (by omega) (by simp) _ rfl ?_; intro g2 cap2 w2 hown2 hgrow2 hlies2 hlt2)
  go_ret
  rw [Nat.zero_add, List.nil_append] at hown2
  refine ⟨⟨g2, cap2, by simp, rd_of_own hown2⟩, ((Below.refl _ _).alloc (Nat.le_refl _) _).grown hgrow2 (by simp) (fun k hk => by cases hk; exact Nat.le_refl _)⟩
/-- slices.Clone. -/
theorem clone5_any (a : Option Addr) (len cap n₀ : Nat) (zs : List Int) (w : World) (h : Rd .i32 n₀ w a len cap zs) (hlen : len ≤ 1048576) :
    Calls Yba.prog 5 #[.slice a len cap] w fun e w' => ∃ a2 cap2, e = .returned (.slice a2 len cap2) ∧ a2.isNone = a.isNone ∧ Rd .i32 w'.heap.size w' a2 len cap2 zs ∧ Below w.heap.size w w' := by
  obtain ⟨rfl, hle, hnil, hat⟩ := h
  rcases Nat.eq_zero_or_pos zs.length with h0 | hp
  · rw [h0]
    cases a with
    | none =>
      refine (clone5_nil cap w).mono ?_
      rintro e w' ⟨rfl, rfl⟩
      exact ⟨none, 0, rfl, rfl, ⟨h0, Nat.le_refl _, fun _ => ⟨rfl, rfl⟩, .inl rfl⟩, Below.refl _ _⟩
    | some x =>
      refine (clone5_zero x cap w).mono ?_
      rintro e w' ⟨⟨y, rfl⟩, hbel⟩
      exact ⟨some y, 0, rfl, rfl, ⟨h0, Nat.le_refl _, fun h => by (cases h), .inl rfl⟩, hbel⟩
  · rcases hat with h0 | ⟨g, off, rfl, _, hcell⟩
    · omega
    · refine (clone5_pos g off cap zs w hp hlen hcell).mono ?_
      rintro e w' ⟨⟨g2, cap2, rfl, hby⟩, hbel⟩
      exact ⟨_, cap2, rfl, rfl, hby, hbel⟩

theorem clone4_nil (cap : Nat) (w : World) : Calls Yba.prog 4 #[.slice none 0 cap] w fun e w' => e = .returned (.slice none 0 0) ∧ w' = w := by
  have hq := eql_nil 22 25 Yba.underlying22
  go_enter Yba.func4, Yba.ntmps4
  go_wp2
  go_ret
  exact ⟨rfl, rfl⟩
theorem clone4_zero (x : Addr) (cap : Nat) (w : World) : Calls Yba.prog 4 #[.slice (some x) 0 cap] w fun e w' => (∃ y, e = .returned (.slice (some y) 0 0)) ∧ Below w.heap.size w w' := by
  have hq := eql_nil 22 25 Yba.underlying22
  go_enter Yba.func4, Yba.ntmps4
  go_wp2
  go_ret
  exact ⟨⟨_, rfl⟩, (Below.refl _ _).alloc (Nat.le_refl _) _⟩
set_option maxRecDepth 100000 in
theorem clone4_pos (g off cap : Nat) (zs : List Int) (w : World) (hp : 0 < zs.length) (hlen : zs.length ≤ 1048576) (hcell : ∀ j, j < zs.length → w.cell? ⟨g, off + j, none⟩ = some (.int .u32 (zs[j]?.getD 0))) :
    Calls Yba.prog 4 #[.slice (some ⟨g, off, none⟩) zs.length cap] w fun e w' => (∃ g2 cap2, e = .returned (.slice (some ⟨g2, 0, none⟩) zs.length cap2) ∧ Rd .u32 w'.heap.size w' (some ⟨g2, 0, none⟩) zs.length cap2 zs) ∧ Below w.heap.size w w' := by
  have hq := eql_nil 22 25 Yba.underlying22
  obtain ⟨i0, hi, hz0, hz1, hz2⟩ := info_parts info25
  have HO := hide (own0 25 w)
  have HC : Hid (∀ j u, (vals .u32 zs)[j]? = some u → (w.alloc (.cells #[] 25)).cell? ((⟨g, off, none⟩ : Addr).add j) = some u) := hide (fun j u hu => by
    have hj : j < zs.length := by
      have := (List.getElem?_eq_some_iff.1 hu).1
      simpa [vals] using this
    rw [vals_at .u32 zs j hj] at hu
    rw [Addr.add_lit, ← hu, ← hcell j hj]
    exact World.cell?_of_block (w := w) (Below.heap_alloc _ _ _ (cell_lt (hcell j hj))))
  clear hcell
  go_enter Yba.func4, Yba.ntmps4
  go_wp2_with (at_builtin; refine wpList_append_lies _ rfl _ _ 22 rfl w.heap.size 25 i0 (.int .u32 0) 1 4 Yba.underlying22 hi hz0 hz1 hz2 rfl (by decide) _ 0 [] rfl HO.out ⟨g, off, none⟩ zs.length _ (vals .u32 zs) rfl (by simp [vals]) HC.out (fun u hu => by simp [vals] at hu; obtain ⟨x, _, rfl⟩ := hu; rfl) hp (by unfold maxLen; omega) (by omega) (by simp) _ rfl ?_; intro g2 cap2 w2 hown2 hgrow2 hlies2 hlt2)
  go_ret
  rw [Nat.zero_add, List.nil_append] at hown2
  refine ⟨⟨g2, cap2, by simp, rd_of_own hown2⟩, ((Below.refl _ _).alloc (Nat.le_refl _) _).grown hgrow2 (by simp) (fun k hk => by cases hk; exact Nat.le_refl _)⟩
/-- slices.Clone. -/
theorem clone4_any (a : Option Addr) (len cap n₀ : Nat) (zs : List Int) (w : World) (h : Rd .u32 n₀ w a len cap zs) (hlen : len ≤ 1048576) :
    Calls Yba.prog 4 #[.slice a len cap] w fun e w' => ∃ a2 cap2, e = .returned (.slice a2 len cap2) ∧ a2.isNone = a.isNone ∧ Rd .u32 w'.heap.size w' a2 len cap2 zs ∧ Below w.heap.size w w' := by
  obtain ⟨rfl, hle, hnil, hat⟩ := h
  rcases Nat.eq_zero_or_pos zs.length with h0 | hp
  · rw [h0]
    cases a with
    | none =>
      refine (clone4_nil cap w).mono ?_
      rintro e w' ⟨rfl, rfl⟩
      exact ⟨none, 0, rfl, rfl, ⟨h0, Nat.le_refl _, fun _ => ⟨rfl, rfl⟩, .inl rfl⟩, Below.refl _ _⟩
    | some x =>
      refine (clone4_zero x cap w).mono ?_
      rintro e w' ⟨⟨y, rfl⟩, hbel⟩
      exact ⟨some y, 0, rfl, rfl, ⟨h0, Nat.le_refl _, fun h => by (cases h), .inl rfl⟩, hbel⟩
  · rcases hat with h0 | ⟨g, off, rfl, _, hcell⟩
    · omega
    · refine (clone4_pos g off cap zs w hp hlen hcell).mono ?_
      rintro e w' ⟨⟨g2, cap2, rfl, hby⟩, hbel⟩
      exact ⟨_, cap2, rfl, rfl, hby, hbel⟩
end Go.Proofs.Ybulkdtay
