import Derived.WalkKit
import Derived.BigQuiet
namespace Go.Proofs.Ybulkdszi
open Go.RowKit

/-- 'Of the blocks that w has, w' has turned only those in D.' -/
structure Keeps (D : Nat → Prop) (w w' : World) : Prop where
  os : w'.os = w.os
  tape : w'.tape = w.tape
  output : w'.output = w.output
  size : w.heap.size ≤ w'.heap.size
  block : ∀ b, b < w.heap.size → ¬ D b → w'.heap[b]? = w.heap[b]?

theorem Keeps.refl (D : Nat → Prop) (w : World) : Keeps D w w := ⟨rfl, rfl, rfl, Nat.le_refl _, fun _ _ _ => rfl⟩
theorem Keeps.trans {D : Nat → Prop} {a b c : World} (h : Keeps D a b) (k : Keeps D b c) : Keeps D a c :=
  ⟨k.os.trans h.os, k.tape.trans h.tape, k.output.trans h.output, Nat.le_trans h.size k.size, fun i hi hd => (k.block i (Nat.lt_of_lt_of_le hi h.size) hd).trans (h.block i hi hd)⟩
/-- What turned in the second step was turned by the first one's leave, or is new. -/
theorem Keeps.thenNew {D D' : Nat → Prop} {a b c : World} (h : Keeps D a b) (k : Keeps D' b c) (hD : ∀ i, i < a.heap.size → D' i → D i) : Keeps D a c :=
  ⟨k.os.trans h.os, k.tape.trans h.tape, k.output.trans h.output, Nat.le_trans h.size k.size, fun i hi hd => (k.block i (Nat.lt_of_lt_of_le hi h.size) (fun x => hd (hD i hi x))).trans (h.block i hi hd)⟩
theorem Keeps.mono {D D' : Nat → Prop} {a b : World} (h : Keeps D a b) (hD : ∀ i, D i → D' i) : Keeps D' a b :=
  ⟨h.os, h.tape, h.output, h.size, fun i hi hd => h.block i hi (fun x => hd (hD i x))⟩
theorem Keeps.drew {D : Nat → Prop} {a w : World} (h : Keeps D a w) : Keeps D a w.drew := ⟨h.os, h.tape, h.output, h.size, h.block⟩
theorem Keeps.drewN {D : Nat → Prop} {a w : World} (h : Keeps D a w) (n : Nat) : Keeps D a (w.drewN n) := ⟨h.os, h.tape, h.output, h.size, h.block⟩
theorem Keeps.alloc {D : Nat → Prop} {a w : World} (h : Keeps D a w) (o : Obj) : Keeps D a (w.alloc o) :=
  h.trans ⟨rfl, rfl, rfl, by simp, fun k hk _ => Below.heap_alloc _ _ _ hk⟩
theorem Keeps.setCell {D : Nat → Prop} {a w : World} (h : Keeps D a w) {p : Addr} (hp : p.block < a.heap.size → D p.block) (u : Value) : Keeps D a (w.setCell p u) :=
  ⟨h.os, h.tape, h.output, by simpa [World.setCell] using h.size, fun k hk hd => by
    rw [Below.heap_setCell _ _ _ _ (fun e => hd (by subst e; exact hp hk))]; exact h.block k hk hd⟩
theorem Keeps.grown {D : Nat → Prop} {a w w' : World} {row : Option Nat} (h : Keeps D a w) (hg : w.grownBy w' row) (hr : ∀ k, k < a.heap.size → row = some k → D k) : Keeps D a w' :=
  ⟨hg.os.trans h.os, hg.tape.trans h.tape, hg.output.trans h.output, Nat.le_trans h.size hg.size, fun k hk hd => by
    rw [hg.block k (Nat.lt_of_lt_of_le hk h.size) (fun e => hd (hr k hk e.symm))]; exact h.block k hk hd⟩
theorem Keeps.of_below {B : Nat} {D : Nat → Prop} {a w : World} (h : Below B a w) (hD : ∀ i, B ≤ i → i < a.heap.size → D i) : Keeps D a w :=
  ⟨h.os, h.tape, h.output, h.size, fun k hk hd => h.block k (by rcases Nat.lt_or_ge k B with x | x; exact x; exact absurd (hD k x hk) hd)⟩
theorem Keeps.below {D : Nat → Prop} {B : Nat} {a w : World} (h : Keeps D a w) (hB : B ≤ a.heap.size) (hD : ∀ i, i < B → ¬ D i) : Below B a w :=
  ⟨h.os, h.tape, h.output, h.size, fun k hk => h.block k (by omega) (hD k hk)⟩

/-- A row that is owned stays owned where its block has not turned. -/
theorem owns_keep {D : Nat → Prop} {w w' : World} {base : Nat} {e : TypeId} {v : Value} {n : Nat} {xs : List Value} (h : w.ownsRow base e 1 v n xs) (k : Keeps D w w') (hv : ∀ g, v.ownBlock = some g → ¬ D g) : w'.ownsRow base e 1 v n xs := by
  refine ⟨h.1, ?_⟩
  rcases h.2 with h0 | ⟨g, cap, cur, rfl, hb, hg, r⟩
  · exact .inl h0
  · refine .inr ⟨g, cap, cur, rfl, hb, ?_, r⟩
    rw [k.block g ?_ (hv g rfl), hg]
    rcases Nat.lt_or_ge g w.heap.size with x | x
    · exact x
    · rw [Array.getElem?_eq_none x] at hg; cases hg
theorem owns_lt {w : World} {base : Nat} {e : TypeId} {v : Value} {n : Nat} {xs : List Value} (h : w.ownsRow base e 1 v n xs) {g : Nat} (hv : v.ownBlock = some g) : base ≤ g ∧ g < w.heap.size := by
  rcases h.2 with ⟨rfl, _⟩ | ⟨g', cap, cur, rfl, hb, hg, r⟩
  · simp [Value.ownBlock] at hv
  · simp [Value.ownBlock] at hv
    subst hv
    refine ⟨hb, ?_⟩
    rcases Nat.lt_or_ge g' w.heap.size with x | x
    · exact x
    · rw [Array.getElem?_eq_none x] at hg; cases hg
theorem block_lt {w : World} {b : Nat} {o : Obj} (h : w.heap[b]? = some o) : b < w.heap.size := by
  rcases Nat.lt_or_ge b w.heap.size with x | x
  · exact x
  · rw [Array.getElem?_eq_none x] at h; cases h
theorem Keeps.at {D : Nat → Prop} {w w' : World} {b : Nat} {o : Obj} (k : Keeps D w w') (h : w.heap[b]? = some o) (hd : ¬ D b) : w'.heap[b]? = some o := by
  rw [k.block b (block_lt h) hd, h]
end Go.Proofs.Ybulkdszi
