import Derived.Test.YbulkdtayFmtEq
import Derived.Laws.BytesArg
import Derived.Shelf.Bytes.SlSmallAll
import Derived.Deep.AppendLies
namespace Go.Proofs.YbulkdtayFmt
open Go.RowKit

def strB (b : Nat → Nat) (len : Nat) : ByteArray := strOfNums ((List.range len).map fun j => ((b j : Nat) : Int))
theorem conv_any {w : World} {a : Option Addr} {len cap : Nat} {b : Nat → Nat} (h : IsBytes w a len cap b) : (convert 22 9 (.slice a len cap)).run Ybaf.prog w = .ok (.string (strB b len)) w := by
  obtain ⟨hlc, hcm, hb, hc⟩ := h
  rcases Nat.eq_zero_or_pos len with rfl | hp
  · exact run_convert_bytes_zero w 22 5 Ybaf.underlying22 Ybaf.underlying5 a cap 9 Ybaf.underlying9
  · obtain ⟨g, off, rfl, hcell⟩ := hc hp
    refine run_convert_bytes_arg w 22 5 Ybaf.underlying22 Ybaf.underlying5 g off len cap _ (by simp) (fun i hi => ?_) 9 Ybaf.underlying9
    rw [hcell i hi]
    simp [List.getD, hi]

/-- bytes.Equal at two slices of the same bytes. -/
theorem equal_any (v1 v2 : Value) (s : ByteArray) (w : World) (h1 : (convert 22 9 v1).run Ybaf.prog w = .ok (.string s) w) (h2 : (convert 22 9 v2).run Ybaf.prog w = .ok (.string s) w) :
    Calls Ybaf.prog 8 #[v1, v2] w fun e w' => e = .returned (.bool true) ∧ w' = w := by
  go_enter Ybaf.func8, Ybaf.ntmps8
  go_wp2
  go_ret
  exact ⟨rfl, rfl⟩

theorem Ybaf.info5 : (Ybaf.prog.info? 5).map (fun i => (i.zero, i.size, i.bytes)) = some (some (.int .u8 0), 1, 1) := by kernel_rfl

theorem clone_nil (cap : Nat) (w : World) : Calls Ybaf.prog 6 #[.slice none 0 cap] w fun e w' => e = .returned (.slice none 0 0) ∧ w' = w := by
  have hq := eql_nil22
  go_enter Ybaf.func6, Ybaf.ntmps6
  go_wp2
  go_ret
  exact ⟨rfl, rfl⟩
theorem clone_zero (x : Addr) (cap : Nat) (w : World) : Calls Ybaf.prog 6 #[.slice (some x) 0 cap] w fun e w' => (∃ y, e = .returned (.slice (some y) 0 0)) ∧ Below w.heap.size w w' := by
  have hq := eql_nil22
  go_enter Ybaf.func6, Ybaf.ntmps6
  go_wp2
  go_ret
  exact ⟨⟨_, rfl⟩, (Below.refl _ _).alloc (Nat.le_refl _) _⟩

def u8s (b : Nat → Nat) (len : Nat) : List Value := (List.range len).map fun j => Value.int .u8 ((b j : Nat) : Int)
theorem own0 (w : World) : (w.alloc (.cells #[] 5)).ownsRow w.heap.size 5 1 (.slice (some ⟨w.heap.size, 0, none⟩) 0 0) 0 [] :=
  ⟨rfl, .inr ⟨w.heap.size, 0, #[], rfl, Nat.le_refl _, heap_alloc_new _ _, Nat.le_refl _, Nat.zero_le _, rfl, rfl⟩⟩
theorem u8s_at (b : Nat → Nat) (len j : Nat) (h : j < len) : (u8s b len)[j]? = some (.int .u8 ((b j : Nat) : Int)) := by
  simp [u8s, h]
theorem bytes_of_own {w : World} {base g n cap : Nat} {b : Nat → Nat} (hb : ∀ j, b j < 256) (h : w.ownsRow base 5 1 (.slice (some ⟨g, 0, none⟩) n cap) n (u8s b n)) : IsBytes w (some ⟨g, 0, none⟩) n cap b := by
  rcases h.2 with ⟨h', _⟩ | ⟨g', cap', cur, h', hbb, hg, hc, hm, hs, ht⟩
  · cases h'
  · cases h'
    unfold maxLen at hm
    refine ⟨hc, by omega, hb, fun _ => ⟨g, 0, rfl, fun j hj => ?_⟩⟩
    rw [cell_at hg, Nat.zero_add]
    rw [Nat.mul_one] at ht
    have e := congrArg (fun l => l[j]?) ht
    simp only [List.getElem?_take, hj, if_true] at e
    rw [← Array.getElem?_toList, e, u8s_at b n j hj]

set_option maxRecDepth 100000 in
theorem clone_pos (g off len cap : Nat) (b : Nat → Nat) (w : World) (hb : ∀ j, b j < 256) (hp : 0 < len) (hlen : len ≤ 1048576) (hcell : ∀ j, j < len → w.cell? ⟨g, off + j, none⟩ = some (.int .u8 (b j : Nat))) :
    Calls Ybaf.prog 6 #[.slice (some ⟨g, off, none⟩) len cap] w fun e w' => (∃ g2 cap2, e = .returned (.slice (some ⟨g2, 0, none⟩) len cap2) ∧ IsBytes w' (some ⟨g2, 0, none⟩) len cap2 b) ∧ Below w.heap.size w w' := by
  have hq := eql_nil22
  obtain ⟨i0, hi, hz0, hz1, hz2⟩ := info_parts Ybaf.info5
  have HO := hide (own0 w)
  have HC : Hid (∀ j u, (u8s b len)[j]? = some u → (w.alloc (.cells #[] 5)).cell? ((⟨g, off, none⟩ : Addr).add j) = some u) := hide (fun j u hu => by
    have hj : j < len := by
      have := (List.getElem?_eq_some_iff.1 hu).1
      simpa [u8s] using this
    rw [u8s_at b len j hj] at hu
    rw [Addr.add_lit, ← hu, ← hcell j hj]
    exact World.cell?_of_block (w := w) (Below.heap_alloc _ _ _ (cell_lt (hcell j hj))))
  clear hcell
  go_enter Ybaf.func6, Ybaf.ntmps6
  go_wp2_with (at_builtin; refine wpList_append_lies _ rfl _ _ 22 rfl w.heap.size 5 i0 (.int .u8 0) 1 1 Ybaf.underlying22 hi hz0 hz1 hz2 rfl (by decide) _ 0 [] rfl HO.out ⟨g, off, none⟩ len _ (u8s b len) rfl (by simp [u8s]) HC.out (fun u hu => by simp [u8s] at hu; obtain ⟨x, _, rfl⟩ := hu; rfl) hp (by unfold maxLen; omega) (by omega) (by simp) _ rfl ?_; intro g2 cap2 w2 hown2 hgrow2 hlies2 hlt2)
  go_ret
  rw [Nat.zero_add, List.nil_append] at hown2
  refine ⟨⟨g2, cap2, by simp, bytes_of_own hb hown2⟩, ((Below.refl _ _).alloc (Nat.le_refl _) _).grown hgrow2 (by simp) (fun k hk => by cases hk; exact Nat.le_refl _)⟩

/-- bytes.Clone. -/
theorem clone_any (a : Option Addr) (len cap : Nat) (b : Nat → Nat) (w : World) (h : IsBytes w a len cap b) (hlen : len ≤ 1048576) :
    Calls Ybaf.prog 6 #[.slice a len cap] w fun e w' => ∃ a2 cap2, e = .returned (.slice a2 len cap2) ∧ a2.isNone = a.isNone ∧ IsBytes w' a2 len cap2 b ∧ Below w.heap.size w w' := by
  obtain ⟨hlc, hcm, hb, hc⟩ := h
  rcases Nat.eq_zero_or_pos len with rfl | hp
  · cases a with
    | none =>
      refine (clone_nil cap w).mono ?_
      rintro e w' ⟨rfl, rfl⟩
      exact ⟨none, 0, rfl, rfl, ⟨Nat.le_refl _, by omega, hb, fun h => absurd h (by omega)⟩, Below.refl _ _⟩
    | some x =>
      refine (clone_zero x cap w).mono ?_
      rintro e w' ⟨⟨y, rfl⟩, hbel⟩
      exact ⟨some y, 0, rfl, rfl, ⟨Nat.le_refl _, by omega, hb, fun h => absurd h (by omega)⟩, hbel⟩
  · obtain ⟨g, off, rfl, hcell⟩ := hc hp
    refine (clone_pos g off len cap b w hb hp hlen hcell).mono ?_
    rintro e w' ⟨⟨g2, cap2, rfl, hby⟩, hbel⟩
    exact ⟨_, cap2, rfl, rfl, hby, hbel⟩
end Go.Proofs.YbulkdtayFmt
