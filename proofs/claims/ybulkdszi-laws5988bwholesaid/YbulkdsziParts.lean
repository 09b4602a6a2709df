import Derived.Test.YbulkdsziRemove
import Derived.Test.YbulkdsziLog
namespace Go.Proofs.Ybulkdszi
open Go.RowKit Go.Shelf Go.MuLone

def isRegion (n : Nat) : Code → Bool
  | .region i _ _ => i == n
  | _ => false
/-- The part of a body that begins with region n. -/
def fromRegion (n : Nat) : Code → Option Code
  | .seq a b => if isRegion n a then some (.seq a b) else match fromRegion n a with
    | some c => some c
    | none => fromRegion n b
  | .block _ c => fromRegion n c
  | .scope c => fromRegion n c
  | .cond _ a b => match fromRegion n a with
    | some c => some c
    | none => fromRegion n b
  | _ => none

/-- 'same' at two slices that the call owns. -/
theorem same_own (b1 b2 : Nat) (v1 v2 : Value) (ps : List Nat) (w : World) (h1 : w.ownsRow b1 52 1 v1 ps.length (ps.map sptr)) (h2 : w.ownsRow b2 52 1 v2 ps.length (ps.map sptr)) (hbig : ps.length ≤ 1048576) :
    Calls Yba.prog 11 #[v1, v2] w fun e w' => e = .returned (.bool true) ∧ ∃ q, w' = w.drewN q := by
  by_cases h0 : ps.length = 0
  · obtain rfl : ps = [] := List.eq_nil_of_length_eq_zero h0
    have f : ∀ {b : Nat} {v : Value}, w.ownsRow b 52 1 v ([] : List Nat).length (([] : List Nat).map sptr) → ∃ a cap, v = .slice a 0 cap := fun h => by
      rcases h.2 with ⟨h', _⟩ | ⟨g', cap', cur, h', _⟩
      · exact ⟨_, _, h'⟩
      · exact ⟨_, _, h'⟩
    obtain ⟨a1, c1, rfl⟩ := f h1
    obtain ⟨a2, c2, rfl⟩ := f h2
    exact same_empty a1 a2 c1 c2 w
  · obtain ⟨g1, cap1, rfl, _, _⟩ := h1.form (by omega)
    obtain ⟨g2, cap2, rfl, _, _⟩ := h2.form (by omega)
    exact same_pos g1 g2 ps.length cap1 cap2 ps w (by omega) (fun j hj => by have := own_cell h1 rfl j hj; rwa [Nat.zero_add] at this) (fun j hj => by have := own_cell h2 rfl j hj; rwa [Nat.zero_add] at this)

theorem beq_own (b1 b2 : Nat) (v1 v2 : Value) (zs : List Int) (w : World) (h1 : w.ownsRow b1 3 1 v1 zs.length (ints zs)) (h2 : w.ownsRow b2 3 1 v2 zs.length (ints zs)) (hbig : zs.length ≤ 1048576) :
    Calls Yba.prog 9 #[v1, v2] w fun e w' => e = .returned (.bool true) ∧ ∃ q, w' = w.drewN q := by
  have fc : ∀ {b g cap : Nat}, w.ownsRow b 3 1 (.slice (some ⟨g, 0, none⟩) zs.length cap) zs.length (ints zs) → ∀ j, j < zs.length → w.cell? ⟨g, j, none⟩ = some (.int .i64 (zs.getD j 0)) := fun h j hj => by
    rw [h.cellAt j (by omega)]
    simp [ints, List.getElem?_map, List.getD, List.getElem?_eq_getElem hj]
  by_cases h0 : zs.length = 0
  · obtain rfl : zs = [] := List.eq_nil_of_length_eq_zero h0
    have f : ∀ {b : Nat} {v : Value}, w.ownsRow b 3 1 v ([] : List Int).length (ints []) → ∃ a cap, v = .slice a 0 cap := fun h => by
      rcases h.2 with ⟨h', _⟩ | ⟨g', cap', cur, h', _⟩
      · exact ⟨_, _, h'⟩
      · exact ⟨_, _, h'⟩
    obtain ⟨a1, c1, rfl⟩ := f h1
    obtain ⟨a2, c2, rfl⟩ := f h2
    exact beq_empty a1 a2 c1 c2 w
  · obtain ⟨g1, cap1, rfl, _, _⟩ := h1.form (by omega)
    obtain ⟨g2, cap2, rfl, _, _⟩ := h2.form (by omega)
    exact beq_pos g1 g2 zs.length cap1 cap2 zs w (by omega) (fc h1) (fc h2)

theorem rem_last {ps : List Nat} {s : Nat} (h : s ∉ ps) : rem (ps ++ [s]) s = ps := by
  unfold rem
  rw [if_pos (by simp), pos_split h]
  simp
theorem rem_gone {ps : List Nat} {s : Nat} (h : s ∉ ps) : rem ps s = ps := by simp [rem, h]
theorem own_drewN {w : World} {b : Nat} {e : TypeId} {v : Value} {n : Nat} {xs : List Value} (h : w.ownsRow b e 1 v n xs) (q : Nat) : (w.drewN q).ownsRow b e 1 v n xs := h

end Go.Proofs.Ybulkdszi
