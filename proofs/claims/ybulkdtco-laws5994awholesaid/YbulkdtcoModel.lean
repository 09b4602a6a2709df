import Derived.Test.YbulkdtcoRows
import Derived.WalkKit
import Derived.BigQuiet
import Derived.Deep.Cut
import Derived.Maps.Own
import Derived.Maps.OwnSet
import Derived.Maps.Views
import Derived.OwnWalk
namespace Go.Proofs.Ybulkdtco
open Go.RowKit

/-- A hypothesis that the walk is not to use. -/
def Hid (p : Prop) : Prop := p
theorem hide {p : Prop} (h : p) : Hid p := h
theorem Hid.out {p : Prop} (h : Hid p) : p := h

/-- One entry: its key, its count, its mark. -/
structure Ent where
  key : ByteArray
  cnt : Int
  nul : Bool

/-- The slice reads as the entries e 0, e 1, ... -/
def IsEnt (w : World) (a : Option Addr) (len cap : Nat) (e : Nat → Ent) : Prop :=
  len ≤ cap ∧ cap ≤ 9223372036854775807 ∧ (∀ j, j < len → (e j).key.size ≤ maxLen) ∧
  (0 < len → ∃ g off, a = some ⟨g, off, none⟩ ∧ ∀ j, j < len → w.cell? ⟨g, off + j * 3, none⟩ = some (.string (e j).key) ∧ w.cell? ⟨g, off + j * 3 + 1, none⟩ = some (.int .u64 (e j).cnt) ∧ w.cell? ⟨g, off + j * 3 + 2, none⟩ = some (.bool (e j).nul))

/-- The last of the first n entries that bears the key. -/
def last (e : Nat → Ent) (k : ByteArray) : Nat → Option (Int × Bool)
  | 0 => none
  | n + 1 => if (e n).key = k then some ((e n).cnt, (e n).nul) else last e k n

def valOf : Option (Int × Bool) → Int
  | some (d, false) => d
  | _ => 0
def nilOf : Option (Int × Bool) → Bool
  | some (_, b) => b
  | none => false
def tri (o : Option (Int × Bool)) : Value := .tuple #[.int .u64 (valOf o), .bool o.isSome, .bool (nilOf o)]

theorem key_ne {x y : ByteArray} (h : ¬ x = y) : (x.toList == y.toList) = false := by
  rw [beq_eq_false_iff_ne]
  intro e
  rw [ByteArray.toList_eq, ByteArray.toList_eq] at e
  exact h (WideShapes.bytes_inj e)

theorem Yba.cells30 : Yba.prog.cellsOf 30 = 3 := by kernel_rfl

set_option maxHeartbeats 2000000 in
theorem model_walk (a : Option Addr) (len cap : Nat) (e : Nat → Ent) (k : ByteArray) (w : World) (h : IsEnt w a len cap e) :
    Calls Yba.prog 4 #[.slice a len cap, .string k] w fun x w' => x = .returned (tri (last e k len)) ∧ w' = w := by
  obtain ⟨hlc, hcm, hsz, hc⟩ := h
  have HC := hide hc
  clear hc
  go_enter Yba.func4, Yba.ntmps4
  go_wp2_with fail
  go_loopw [7] (fun i wl => ∃ n : Nat, n ≤ len ∧ i = .int .i64 ((n : Int) - 1) ∧ last e k len = last e k n ∧ wl = w) (fun i _ => (intOf i + 1).toNat)
  case atStart => exact ⟨len, Nat.le_refl _, by simp, rfl, rfl⟩
  case round =>
    obtain ⟨n, hn, rfl, hl, rfl⟩ := hrel
    by_cases h0 : n = 0
    · subst h0
      go_wp2
      refine bodyPost_ret (v := tri (last e k len)) ?_ rfl ⟨rfl, rfl⟩
      rw [hl]
      simp [results, Yba.results4, go_sem, last, tri, valOf, nilOf]
    · obtain ⟨m, rfl⟩ : ∃ m, n = m + 1 := ⟨n - 1, by omega⟩
      obtain ⟨g, off, rfl, hcell⟩ := HC.out (by omega)
      obtain ⟨c0, c1, c2⟩ := hcell m (by omega)
      clear hcell
      by_cases hk : (e m).key = k
      · cases hN : (e m).nul
        · rw [hN] at c2
          go_wp2
          refine bodyPost_ret (v := tri (last e k len)) ?_ rfl ⟨rfl, rfl⟩
          rw [hl]
          simp [results, Yba.results4, go_sem, last, tri, valOf, nilOf, hk, hN]
        · rw [hN] at c2
          go_wp2
          refine bodyPost_ret (v := tri (last e k len)) ?_ rfl ⟨rfl, rfl⟩
          rw [hl]
          simp [results, Yba.results4, go_sem, last, tri, valOf, nilOf, hk, hN]
      · have hkb : ((e m).key.toList == k.toList) = false := key_ne hk
        have hl2 : last e k len = last e k m := by rw [hl]; simp [last, hk]
        go_wp2
        refine ⟨⟨m, by omega, by simp, hl2, trivial⟩, ?_⟩
        simp [intOf]
end Go.Proofs.Ybulkdtco
