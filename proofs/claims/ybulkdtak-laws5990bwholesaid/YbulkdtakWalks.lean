import Derived.Test.YbulkdtakRows
import Derived.WalkKit
namespace Go.Proofs.Ybulkdtak
open Go.RowKit

/-- Go's '==' on strings, as the walk writes it. -/
def eqs (s x : ByteArray) : Bool := x.toList == s.toList
/-- 's is among the strings'. -/
def hasB (s : ByteArray) (ss : List ByteArray) : Bool := ss.any (eqs s)

theorem hasB_nil (s : ByteArray) : hasB s [] = false := rfl
theorem getD_eq (ss : List ByteArray) (k : Nat) (h : k < ss.length) : ss[k]?.getD ByteArray.empty = ss[k] := by
  simp [List.getElem?_eq_getElem h]
theorem hasB_snoc (s : ByteArray) (ss : List ByteArray) (k : Nat) (h : k < ss.length) : hasB s (ss.take (k + 1)) = (hasB s (ss.take k) || (ss[k]?.getD ByteArray.empty).toList == s.toList) := by
  unfold hasB
  rw [List.take_succ_eq_append_getElem h, List.any_append, getD_eq ss k h]
  simp [eqs]
theorem hasB_mem (s : ByteArray) (ss : List ByteArray) (k n : Nat) (h : k < n) (hn : n ≤ ss.length) (he : ((ss[k]?.getD ByteArray.empty).toList == s.toList) = true) : hasB s (ss.take n) = true := by
  unfold hasB
  rw [List.any_eq_true]
  have hk : k < ss.length := by omega
  refine ⟨ss[k], ?_, by rw [getD_eq ss k hk] at he; exact he⟩
  exact List.mem_take_iff_getElem.2 ⟨k, by omega, rfl⟩
theorem hasB_cons (s : ByteArray) (ss : List ByteArray) (k : Nat) (h : k < ss.length) : hasB s (ss.drop k) = ((ss[k]?.getD ByteArray.empty).toList == s.toList || hasB s (ss.drop (k + 1))) := by
  unfold hasB
  rw [List.drop_eq_getElem_cons h, List.any_cons, getD_eq ss k h]
  rfl
theorem ret_bool {a b : Bool} (h : a = b) : Ending.returned (.bool a) = .returned (.bool b) := by rw [h]

set_option maxHeartbeats 400000 in
theorem contains_pos (b off len cap : Nat) (ss : List ByteArray) (s : ByteArray) (w : World) (hl : len ≤ ss.length) (hbig : len ≤ 9223372036854775807) (hc : ∀ j, j < len → w.cell? ⟨b, off + j, none⟩ = some (.string (ss.getD j ByteArray.empty))) :
    Calls Yba.prog 4 #[.slice (some ⟨b, off, none⟩) len cap, .string s] w fun e w' => e = .returned (.bool (hasB s (ss.take len))) ∧ w' = w := by
  go_enter Yba.func4, Yba.ntmps4
  go_wp2
  go_loop [9] (fun i => ∃ k : Nat, k ≤ len ∧ i = .int .i64 k ∧ Hid (hasB s (ss.take k) = false)) (fun i => len - (intOf i).toNat)
  case atStart => exact ⟨0, Nat.zero_le _, rfl, rfl⟩
  case round =>
    obtain ⟨k, hk, rfl, hno⟩ := hrel
    have hcell : k < len → w.cell? ⟨b, off + k, none⟩ = some (.string (ss.getD k ByteArray.empty)) := fun _ => hc k (by omega)
    go_wp2
    · have hlt : k < len := by assumption
      have he : ((ss[k]?.getD ByteArray.empty).toList == s.toList) = true := by assumption
      go_ret
      exact ⟨ret_bool (hasB_mem s ss k len hlt hl he).symm, rfl⟩
    · have hlt : k < len := by assumption
      have he : ((ss[k]?.getD ByteArray.empty).toList == s.toList) = false := by assumption
      go_round
      case rel => exact ⟨k + 1, by omega, by go_num, by show _ = _; rw [hasB_snoc s ss k (by omega), hno.out, he]; rfl⟩
      case measure => simp [intOf]; omega
    · have hge : ¬ k < len := by assumption
      have : k = len := by omega
      subst this
      go_ret
      exact ⟨ret_bool hno.out.symm, rfl⟩

theorem contains_empty (a : Option Addr) (cap : Nat) (s : ByteArray) (w : World) :
    Calls Yba.prog 4 #[.slice a 0 cap, .string s] w fun e w' => e = .returned (.bool false) ∧ w' = w := by
  go_enter Yba.func4, Yba.ntmps4
  go_wp2
  refine wp_loop_rounds 1 ?_
  rw [rounds_succ]
  go_wp2
  go_ret
  exact ⟨rfl, rfl⟩

set_option maxHeartbeats 400000 in
theorem model_pos (b off len cap : Nat) (ss : List ByteArray) (s : ByteArray) (w : World) (hl : len = ss.length) (hbig : len ≤ 9223372036854775807) (hc : ∀ j, j < len → w.cell? ⟨b, off + j, none⟩ = some (.string (ss.getD j ByteArray.empty))) :
    Calls Yba.prog 5 #[.slice (some ⟨b, off, none⟩) len cap, .string s] w fun e w' => e = .returned (.bool (hasB s ss)) ∧ w' = w := by
  have HL : Hid (len = ss.length) := hl
  clear hl
  go_enter Yba.func5, Yba.ntmps5
  go_wp2
  go_loop [5, 6] (fun f i => ∃ k : Nat, k ≤ len ∧ i = .int .i64 ((k : Int) - 1) ∧ ∃ fb, f = .bool fb ∧ Hid (hasB s (ss.drop k) = fb)) (fun _ i => (intOf i + 1).toNat)
  case atStart => exact ⟨len, Nat.le_refl _, rfl, false, rfl, by show _ = _; rw [HL.out, List.drop_length]; rfl⟩
  case round =>
    obtain ⟨k, hk, rfl, fb, rfl, hno⟩ := hrel
    rcases Nat.eq_zero_or_pos k with rfl | hpos
    · go_wp2
      go_ret
      exact ⟨ret_bool (by rw [← hno.out]; rfl), rfl⟩
    · obtain ⟨j, rfl⟩ : ∃ j, k = j + 1 := ⟨k - 1, by omega⟩
      have hcell : w.cell? ⟨b, off + j, none⟩ = some (.string (ss.getD j ByteArray.empty)) := hc j (by omega)
      go_wp2
      · have he : ((ss[j]?.getD ByteArray.empty).toList == s.toList) = true := by assumption
        go_round
        case rel => exact ⟨j, by omega, rfl, true, rfl, by show _ = _; rw [hasB_cons s ss j (by have := HL.out; omega), he]; rfl⟩
        case measure => simp [intOf]
      · have he : ((ss[j]?.getD ByteArray.empty).toList == s.toList) = false := by assumption
        go_round
        case rel => exact ⟨j, by omega, rfl, fb, rfl, by show _ = _; rw [hasB_cons s ss j (by have := HL.out; omega), he, hno.out]; rfl⟩
        case measure => simp [intOf]

theorem model_empty (a : Option Addr) (cap : Nat) (s : ByteArray) (w : World) :
    Calls Yba.prog 5 #[.slice a 0 cap, .string s] w fun e w' => e = .returned (.bool false) ∧ w' = w := by
  go_enter Yba.func5, Yba.ntmps5
  go_wp2
  refine wp_loop_rounds 1 ?_
  rw [rounds_succ]
  go_wp2
  go_ret
  exact ⟨rfl, rfl⟩

end Go.Proofs.Ybulkdtak
