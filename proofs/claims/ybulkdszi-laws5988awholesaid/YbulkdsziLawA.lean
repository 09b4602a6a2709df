import Derived.Test.YbulkdsziPlain
import Derived.WalkLawsBesides
import Derived.BigQuiet
import Derived.Deep.QuietTactic
namespace Go.Proofs.Ybulkdszi
open Go.RowKit

theorem upto {S : Nat → ByteArray} {k : Nat} (h : ∀ j, j < k → (S j).size ≤ 1048576) (hk : ¬ 1048576 < (S k).size) : ∀ j, j < k + 1 → (S j).size ≤ 1048576 := fun j hj => by
  rcases Nat.lt_or_ge j k with h' | h'
  · exact h j h'
  · obtain rfl : j = k := by omega
    omega
theorem all15 {S : Nat → ByteArray} (h : ∀ j, j < 15 → (S j).size ≤ 1048576) (hE : ∀ j, 15 ≤ j → (S j).size = 0) : ∀ j, (S j).size ≤ 1048576 := fun j => by
  rcases Nat.lt_or_ge j 15 with h' | h'
  · exact h j h'
  · rw [hE j h']; omega

/-- The world ahead of the call of clone, and what is known of a world behind it. -/
def W2 (S : Nat → ByteArray) (w : World) : World := (w.alloc (.cells (strs15 S) 22)).alloc (.cells (strs15 S) 27)
structure Behind (S : Nat → ByteArray) (w w2 : World) : Prop where
  b0 : w2.heap[w.heap.size]? = some (.cells (strs15 S) 22 (0, 0))
  b1 : w2.heap[w.heap.size + 1]? = some (.cells (strs15 S) 27 (0, 0))
  lt : w.heap.size + 1 < w2.heap.size
  bel : Below w.heap.size w w2
theorem behind {S : Nat → ByteArray} {w w2 : World} (h : Below (W2 S w).heap.size (W2 S w) w2) : Behind S w w2 := by
  have s1 : (w.alloc (.cells (strs15 S) 22)).heap.size = w.heap.size + 1 := by simp
  have s2 : (W2 S w).heap.size = w.heap.size + 2 := by simp [W2]
  refine ⟨?_, ?_, ?_, ?_⟩
  · rw [h.block _ (by omega)]
    show ((w.alloc _).alloc _).heap[w.heap.size]? = _
    rw [Below.heap_alloc _ _ _ (by omega)]
    exact heap_alloc_new w _
  · rw [h.block _ (by omega), ← s1]
    exact heap_alloc_new _ _
  · have := h.size; omega
  · exact (((Below.refl _ _).alloc (Nat.le_refl _) _).alloc (by simp) _).trans (h.mono (by omega))

/-- The world ahead of the last loop. -/
def W3 (S : Nat → ByteArray) (w2 : World) : World := ((w2.alloc (.cells (strs15 S) 27)).alloc (.cells (strs15 S) 22)).alloc (.cells (strs15 S) 22)
structure Ahead (S : Nat → ByteArray) (w w2 W : World) : Prop where
  c0 : ∀ k, k < 15 → W.cell? ⟨w.heap.size, k, none⟩ = some (.string (S k))
  c1 : ∀ k, k < 15 → W.cell? ⟨w2.heap.size + 1, k, none⟩ = some (.string (S k))
  c2 : ∀ k, k < 15 → W.cell? ⟨w2.heap.size + 1 + 1, k, none⟩ = some (.string (S k))
  bel : Below w.heap.size w W
theorem ahead {S : Nat → ByteArray} {w w2 : World} (h : Behind S w w2) : Ahead S w w2 (W3 S w2) := by
  have hb : Below w2.heap.size w2 (W3 S w2) := (((Below.refl w2.heap.size w2).alloc (Nat.le_refl _) _).alloc (by simp) _).alloc (by simp; omega) _
  have hl := h.lt
  have s1 : (w2.alloc (.cells (strs15 S) 27)).heap.size = w2.heap.size + 1 := by simp
  have s2 : ((w2.alloc (.cells (strs15 S) 27)).alloc (.cells (strs15 S) 22)).heap.size = w2.heap.size + 1 + 1 := by simp
  refine ⟨fun k hk => ?_, fun k hk => ?_, fun k hk => ?_, h.bel.trans (hb.mono (by omega))⟩
  · rw [hb.cell (by show w.heap.size < _; omega), Lib.cell_of_heap h.b0]
    exact strs15_at S k hk
  · have e : (W3 S w2).heap[w2.heap.size + 1]? = some (.cells (strs15 S) 22 (0, 0)) := by
      show (((w2.alloc _).alloc _).alloc _).heap[w2.heap.size + 1]? = _
      rw [Below.heap_alloc _ _ _ (by omega), ← s1]
      exact heap_alloc_new _ _
    rw [Lib.cell_of_heap e]
    exact strs15_at S k hk
  · have e : (W3 S w2).heap[w2.heap.size + 1 + 1]? = some (.cells (strs15 S) 22 (0, 0)) := by
      show (((w2.alloc _).alloc _).alloc _).heap[w2.heap.size + 1 + 1]? = _
      rw [← s2]
      exact heap_alloc_new _ _
    rw [Lib.cell_of_heap e]
    exact strs15_at S k hk

set_option maxHeartbeats 4000000 in
set_option maxRecDepth 100000 in
theorem lawA_walk (HCL : Hid (∀ (S : Nat → ByteArray) (w : World), (∀ j, (S j).size ≤ 1048576) → Calls Yba.prog 5 #[.agg (strs15 S)] w fun e w' => e = .returned (.agg (strs15 S)) ∧ Below w.heap.size w w'))
    (S : Nat → ByteArray) (w : World) (hS : ∀ j, (S j).size ≤ 9223372036854775807) (hE : ∀ j, 15 ≤ j → (S j).size = 0) :
    Calls Yba.prog 3 #[.agg (strs15 S)] w fun e w' => e = .returned (.bool true) ∧ Below w.heap.size w w' := by
  have HSS := hid hS
  have HEE := hid hE
  clear hS hE
  unfold strs15 at HCL ⊢
  go_enter Yba.func3, Yba.ntmps3
  go_wp2_with fail
  have hc0 : ∀ j, (w.alloc (.cells (strs15 S) 22)).cell? ⟨w.heap.size, j, none⟩ = (strs15 S)[j]? := fun j => Lib.cell_of_heap (heap_alloc_new w _) j
  have H0 := hid hc0
  clear hc0
  go_loop [3] (fun i => ∃ k : Nat, k ≤ 15 ∧ i = .int .i64 k ∧ Hid (∀ j, j < k → (S j).size ≤ 1048576)) (fun i => 15 - (intOf i).toNat)
  case atStart => exact ⟨0, Nat.zero_le _, rfl, hid (fun j hj => absurd hj (Nat.not_lt_zero _))⟩
  case round =>
    obtain ⟨k, hk, rfl, HS2⟩ := hrel
    have hs := HSS.out k
    by_cases hlt : k < 15
    · have hce := (H0.out k).trans (strs15_at S k hlt)
      unfold strs15 at hce
      by_cases hbig : 1048576 < (S k).size
      · go_wp2
        go_ret
        exact ⟨rfl, (Below.refl _ _).alloc (Nat.le_refl _) _⟩
      · go_wp2
        go_round
        case rel => exact ⟨k + 1, by omega, by go_num, hid (upto HS2.out hbig)⟩
        case measure => simp [intOf]; omega
    · obtain rfl : k = 15 := by omega
      clear H0
      go_wp2_with fail
      refine (HCL.out S (W2 S w) (all15 HS2.out HEE.out)).mono ?_
      rintro e w2 ⟨rfl, hb2⟩
      have HB := hid (behind hb2)
      clear hb2 hs HCL HSS HEE HS2
      have h1 : ∀ o1 o2 j, ((w2.alloc o1).alloc o2).cell? ⟨w.heap.size + 1, j, none⟩ = (strs15 S)[j]? := fun o1 o2 j => by
        have hl := HB.out.lt
        rw [((((Below.refl w2.heap.size w2).alloc (Nat.le_refl _) o1).alloc (by simp) o2)).cell (by exact hl)]
        exact Lib.cell_of_heap HB.out.b1 j
      unfold strs15 at h1
      go_wp2_with fail
      clear h1
      change Code.wp _ _ _ _ (W3 S w2)
      have HL := hid (ahead HB.out)
      clear HB
      generalize W3 S w2 = W at HL ⊢
      go_loopw [8] (fun i wr => ∃ k : Nat, k ≤ 15 ∧ i = .int .i64 k ∧ ∃ n, wr = W.drewN n) (fun i _ => 15 - (intOf i).toNat)
      case atStart => exact ⟨0, Nat.zero_le _, rfl, 0, rfl⟩
      case round =>
        obtain ⟨k, hk, rfl, n, rfl⟩ := hrel
        by_cases hlt : k < 15
        · have c0 := HL.out.c0 k hlt
          have c1 := HL.out.c1 k hlt
          have c2 := HL.out.c2 k hlt
          go_wp2_with fail
          go_quiet (fail)
          go_wp2_with fail
          go_quiet (fail)
          go_wp2
          go_roundw
          case rel => exact ⟨k + 1, by omega, by go_num, _, rfl⟩
          case measure => simp [intOf]; omega
        · go_wp2
          go_ret
          exact ⟨rfl, below_drewN HL.out.bel n⟩
end Go.Proofs.Ybulkdszi
