import Derived.Test.YbulkdsziFields
import Derived.Test.YbulkdsziShelf
namespace Go.Proofs.Ybulkdszi
open Go.RowKit

theorem hid {p : Prop} (h : p) : Hid p := h

/-- The fifteen strings as cells. -/
def strs15 (S : Nat → ByteArray) : Array Value := #[.string (S 0), .string (S 1), .string (S 2), .string (S 3), .string (S 4), .string (S 5), .string (S 6), .string (S 7), .string (S 8), .string (S 9), .string (S 10), .string (S 11), .string (S 12), .string (S 13), .string (S 14)]
def zeros15 : Array Value := strs15 fun _ => { data := #[] }

/-- How many bytes the first k strings have together. -/
def offs (S : Nat → ByteArray) : Nat → Nat
  | 0 => 0
  | k + 1 => offs S k + (S k).size
theorem offs_le (S : Nat → ByteArray) (hS : ∀ j, (S j).size ≤ 1048576) (k : Nat) : offs S k ≤ k * 1048576 := by
  induction k with
  | zero => simp [offs]
  | succ k ih => have := hS k; simp only [offs]; omega

/-- The first k strings' bytes, one behind the other. -/
def cat (S : Nat → ByteArray) : Nat → List UInt8
  | 0 => []
  | k + 1 => cat S k ++ (S k).data.toList
theorem cat_length (S : Nat → ByteArray) (k : Nat) : (cat S k).length = offs S k := by
  induction k with
  | zero => rfl
  | succ k ih => simp [cat, offs, ih]
theorem cells_succ (S : Nat → ByteArray) (k : Nat) : Lib.byteCells (cat S k) ++ Lib.strCells (S k) = Lib.byteCells (cat S (k + 1)) := by
  simp [Lib.byteCells, Lib.strCells, cat]

/-- What is left of the one string behind k cuts. -/
def rest (S : Nat → ByteArray) (k : Nat) : ByteArray := ⟨((cat S 15).drop (offs S k)).toArray⟩
theorem cat_prefix (S : Nat → ByteArray) (k m : Nat) (h : k ≤ m) : ∃ t, cat S m = cat S k ++ t := by
  induction m with
  | zero => obtain rfl : k = 0 := by omega
            exact ⟨[], by simp⟩
  | succ m ih =>
    by_cases he : k = m + 1
    · subst he; exact ⟨[], by simp⟩
    · obtain ⟨t, ht⟩ := ih (by omega)
      exact ⟨t ++ (S m).data.toList, by rw [cat, ht, List.append_assoc]⟩
theorem rest_list (S : Nat → ByteArray) (k : Nat) (h : k < 15) : (cat S 15).drop (offs S k) = (S k).data.toList ++ (cat S 15).drop (offs S (k + 1)) := by
  obtain ⟨t, ht⟩ := cat_prefix S (k + 1) 15 (by omega)
  rw [ht, ← cat_length S (k + 1), List.drop_left, cat, ← cat_length S k, List.append_assoc, List.drop_left]
theorem rest_size (S : Nat → ByteArray) (k : Nat) (h : k < 15) : (rest S k).size = (S k).size + (rest S (k + 1)).size := by
  simp only [rest, ByteArray.size, List.size_toArray]
  rw [rest_list S k h, List.length_append, Array.length_toList]
theorem rest_head (S : Nat → ByteArray) (k : Nat) (h : k < 15) : (rest S k).extract 0 (S k).size = S k := by
  apply ByteArray.ext
  rw [ByteArray.data_extract]
  simp only [rest]
  rw [rest_list S k h]
  apply Array.toList_inj.1
  simp only [ByteArray.size, Array.toList_extract, List.extract_eq_take_drop]
  simp
theorem rest_tail (S : Nat → ByteArray) (k : Nat) (h : k < 15) : (rest S k).extract (S k).size (rest S k).size = rest S (k + 1) := by
  apply ByteArray.ext
  rw [ByteArray.data_extract, rest_size S k h]
  simp only [rest]
  rw [rest_list S k h]
  apply Array.toList_inj.1
  simp only [ByteArray.size, Array.toList_extract, List.extract_eq_take_drop]
  rw [Nat.add_sub_cancel_left, List.drop_left' (by simp), List.take_of_length_le (by simp)]

theorem index_ptr (h : Nat) (k : Nat) (hk : k < 15) (w : World) : (Instr.index 59 (.agg (ptrs h)) (.int .i64 (k : Int))).run Yba.prog w = .ok (.pointer (some ⟨h, k, none⟩)) w := by
  obtain rfl | rfl | rfl | rfl | rfl | rfl | rfl | rfl | rfl | rfl | rfl | rfl | rfl | rfl | rfl : k = 0 ∨ k = 1 ∨ k = 2 ∨ k = 3 ∨ k = 4 ∨ k = 5 ∨ k = 6 ∨ k = 7 ∨ k = 8 ∨ k = 9 ∨ k = 10 ∨ k = 11 ∨ k = 12 ∨ k = 13 ∨ k = 14 := by omega
  all_goals kernel_rfl

theorem strs15_at (S : Nat → ByteArray) (k : Nat) (hk : k < 15) : (strs15 S)[k]? = some (.string (S k)) := by
  obtain rfl | rfl | rfl | rfl | rfl | rfl | rfl | rfl | rfl | rfl | rfl | rfl | rfl | rfl | rfl : k = 0 ∨ k = 1 ∨ k = 2 ∨ k = 3 ∨ k = 4 ∨ k = 5 ∨ k = 6 ∨ k = 7 ∨ k = 8 ∨ k = 9 ∨ k = 10 ∨ k = 11 ∨ k = 12 ∨ k = 13 ∨ k = 14 := by omega
  all_goals rfl

theorem cell15 {w : World} {b : Nat} {S : Nat → ByteArray} (h : w.heap[b]? = some (.cells (strs15 S) 27 (0, 0))) (k : Nat) (hk : k < 15) : w.cell? ⟨b, k, none⟩ = some (.string (S k)) := by
  rw [Lib.cell_of_heap h]
  exact strs15_at S k hk

/-- The world ahead of the first loop. -/
def W1 (S : Nat → ByteArray) (w : World) : World :=
  ((((w.alloc (.cells (strs15 S) 27)).alloc (.cells zeros15 27)).alloc (.cells (ptrs w.heap.size) 59)).alloc (.cells (ptrs w.heap.size) 59)).drew

theorem W1_facts (S : Nat → ByteArray) (w : World) : (W1 S w).heap[w.heap.size]? = some (.cells (strs15 S) 27 (0, 0)) ∧ (W1 S w).heap[w.heap.size + 1]? = some (.cells zeros15 27 (0, 0)) ∧
    (W1 S w).heap[w.heap.size + 1 + 1 + 1]? = some (.cells (ptrs w.heap.size) 59 (0, 0)) ∧ (W1 S w).heap.size = w.heap.size + 4 ∧ Below w.heap.size w (W1 S w) := by
  have s1 : (w.alloc (.cells (strs15 S) 27)).heap.size = w.heap.size + 1 := by simp
  have s2 : ((w.alloc (.cells (strs15 S) 27)).alloc (.cells zeros15 27)).heap.size = w.heap.size + 1 + 1 := by simp
  have s3 : (((w.alloc (.cells (strs15 S) 27)).alloc (.cells zeros15 27)).alloc (.cells (ptrs w.heap.size) 59)).heap.size = w.heap.size + 1 + 1 + 1 := by simp
  refine ⟨?_, ?_, ?_, ?_, ?_⟩
  · show ((((w.alloc _).alloc _).alloc _).alloc _).heap[w.heap.size]? = _
    rw [Below.heap_alloc _ _ _ (by omega), Below.heap_alloc _ _ _ (by omega), Below.heap_alloc _ _ _ (by omega)]
    exact heap_alloc_new w _
  · show ((((w.alloc _).alloc _).alloc _).alloc _).heap[w.heap.size + 1]? = _
    rw [Below.heap_alloc _ _ _ (by omega), Below.heap_alloc _ _ _ (by omega), ← s1]
    exact heap_alloc_new _ _
  · show ((((w.alloc _).alloc _).alloc _).alloc _).heap[w.heap.size + 1 + 1 + 1]? = _
    rw [← s3]
    exact heap_alloc_new _ _
  · show ((((w.alloc _).alloc _).alloc _).alloc _).heap.size = _
    simp
  · exact (((((Below.refl _ _).alloc (Nat.le_refl _) _).alloc (by simp) _).alloc (by simp; omega) _).alloc (by simp; omega) _).drew
end Go.Proofs.Ybulkdszi
