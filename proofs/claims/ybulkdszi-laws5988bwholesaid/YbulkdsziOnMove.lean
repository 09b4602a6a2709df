import Derived.Test.YbulkdsziRows
import Derived.Test.YbulkdsziLocks
import Derived.Test.YbulkdsziKeeps
import Derived.Test.YbulkdsziFields
import Derived.Maps.AppendAt
import Derived.Deep.AppendLies
import Derived.Deep.RegionHeld3
import Derived.Deep.RegionLaw
import Derived.Deep.DeepCutAuto
import Derived.WalkLawsBesides
import Derived.BigQuiet
namespace Go.Proofs.Ybulkdszi
open Go.RowKit Go.MuLone Go.Maps

/-- The clock's nine cells; the lock's word and the settlers told. -/
def clk (m : Int) (v : Value) : Array Value := #[.int .i32 0, .int .u32 0, .int .i32 m, .int .u32 0, .int .u64 0, .int .i64 0, .pointer none, .slice none 0 0, v]
theorem Yba.info52 : (Yba.prog.info? 52).map (fun i => (i.zero, i.size, i.bytes)) = some (some (.pointer none), 1, 8) := by kernel_rfl
theorem cell_at {w : World} {b : Nat} {cs : Array Value} {T : TypeId} {fr : Nat × Nat} (hb : w.heap[b]? = some (.cells cs T fr)) (j : Nat) : w.cell? ⟨b, j, none⟩ = cs[j]? := by simp [World.cell?, hb]
theorem frozen_at {w : World} {b : Nat} {cs : Array Value} {T : TypeId} (hb : w.heap[b]? = some (.cells cs T (0, 0))) (j : Nat) : w.frozen? ⟨b, j, none⟩ = false := by simp [World.frozen?, hb]

theorem hide {p : Prop} (h : p) : Hid p := h

/-- What stands behind the lock. -/
structure Locked (C : Nat) (f v : Value) (n : Nat) (xs : List Value) (base : Nat) (w w1 : World) : Prop where
  c : w1.heap[C]? = some (.cells (clk 1 v) 51 (0, 0))
  cb : w1.heap[w.heap.size]? = some (.cells #[.pointer (some ⟨C, 0, none⟩)] 31 (0, 0))
  st : w1.heap[w.heap.size + 1]? = some (.cells #[f] 54 (0, 0))
  sb : w1.heap[w.heap.size + 1 + 1]? = some (.cells #[.pointer (some ⟨w.heap.size + 1, 0, none⟩)] 52 (0, 0))
  size : w1.heap.size = w.heap.size + 3
  keep : Keeps (· = C) w w1
  own : w1.ownsRow base 52 1 v n xs
def W0 (C : Nat) (f : Value) (w : World) : World := ((w.alloc (.cells #[.pointer (some ⟨C, 0, none⟩)] 31)).alloc (.cells #[f] 54)).alloc (.cells #[.pointer (some ⟨w.heap.size + 1, 0, none⟩)] 52)
theorem W0_at {C : Nat} {f : Value} {w : World} {b : Nat} (h : b < w.heap.size) : (W0 C f w).heap[b]? = w.heap[b]? := by
  unfold W0
  rw [Below.heap_alloc _ _ _ (by simp; omega), Below.heap_alloc _ _ _ (by simp; omega), Below.heap_alloc _ _ _ h]
theorem W0_size (C : Nat) (f : Value) (w : World) : (W0 C f w).heap.size = w.heap.size + 3 := by simp [W0]
theorem locked {C : Nat} {f v : Value} {n : Nat} {xs : List Value} {base : Nat} {w : World} (hC : w.heap[C]? = some (.cells (clk 0 v) 51 (0, 0))) (hown : w.ownsRow base 52 1 v n xs) (hvC : v.ownBlock ≠ some C) :
    Locked C f v n xs base w ((W0 C f w).setCell ⟨C, 2, none⟩ (.int .i32 1)) := by
  have hlt := block_lt hC
  have s1 : (w.alloc (.cells #[.pointer (some ⟨C, 0, none⟩)] 31)).heap.size = w.heap.size + 1 := by simp
  have s2 : ((w.alloc (.cells #[.pointer (some ⟨C, 0, none⟩)] 31)).alloc (.cells #[f] 54)).heap.size = w.heap.size + 1 + 1 := by simp
  have k : Keeps (· = C) w ((W0 C f w).setCell ⟨C, 2, none⟩ (.int .i32 1)) := ((((Keeps.refl (· = C) w).alloc _).alloc _).alloc _).setCell (p := ⟨C, 2, none⟩) (fun _ => rfl) _
  refine ⟨?_, ?_, ?_, ?_, ?_, k, owns_keep hown k (fun g hg e => hvC (by rw [hg, e]))⟩
  · have h0 := (W0_at (C := C) (f := f) hlt).trans hC
    rw [heap_setCell_same _ C 2 _ 51 _ h0]
    rfl
  · rw [Below.heap_setCell _ _ _ _ (by show w.heap.size ≠ C; omega)]
    unfold W0
    rw [Below.heap_alloc _ _ _ (by omega), Below.heap_alloc _ _ _ (by omega)]
    exact heap_alloc_new w _
  · rw [Below.heap_setCell _ _ _ _ (by show w.heap.size + 1 ≠ C; omega)]
    unfold W0
    rw [Below.heap_alloc _ _ _ (by omega), ← s1]
    exact heap_alloc_new _ _
  · rw [Below.heap_setCell _ _ _ _ (by show w.heap.size + 1 + 1 ≠ C; omega)]
    unfold W0
    rw [← s2]
    exact heap_alloc_new _ _
  · simp [World.setCell, W0_size]

/-- What stands behind the append: the lock's word is m. -/
structure Moved (m : Int) (C : Nat) (f v : Value) (n : Nat) (xs : List Value) (base : Nat) (w : World) (g cap2 : Nat) (w' : World) : Prop where
  c : w'.heap[C]? = some (.cells (clk m (.slice (some ⟨g, 0, none⟩) (n + 1) cap2)) 51 (0, 0))
  cb : w'.heap[w.heap.size]? = some (.cells #[.pointer (some ⟨C, 0, none⟩)] 31 (0, 0))
  st : w'.heap[w.heap.size + 1]? = some (.cells #[f] 54 (0, 0))
  sb : w'.heap[w.heap.size + 1 + 1]? = some (.cells #[.pointer (some ⟨w.heap.size + 1, 0, none⟩)] 52 (0, 0))
  own : w'.ownsRow base 52 1 (.slice (some ⟨g, 0, none⟩) (n + 1) cap2) (n + 1) (xs ++ [.pointer (some ⟨w.heap.size + 1, 0, none⟩)])
  lies : v.ownBlock = some g ∨ w.heap.size + 3 ≤ g
  gC : g ≠ C
  keep : Keeps (fun b => b = C ∨ v.ownBlock = some b) w w'

theorem app_C {C : Nat} {f v : Value} {n : Nat} {xs : List Value} {base : Nat} {w w1 w2 : World} {o : Obj} (h : Locked C f v n xs base w w1) (hg : ((w1.alloc o).drew).grownBy w2 v.ownBlock) (hvC : v.ownBlock ≠ some C) :
    w2.heap[C]? = some (.cells (clk 1 v) 51 (0, 0)) := by
  have hl := block_lt h.c
  have e1 : ((w1.alloc o).drew).heap[C]? = w1.heap[C]? := Below.heap_alloc _ _ _ hl
  rw [hg.block C (by show C < (w1.alloc o).heap.size; simp; omega) (fun e => hvC e.symm), e1, h.c]

theorem app_cb {C : Nat} {f v : Value} {n : Nat} {xs : List Value} {base : Nat} {w w1 w2 : World} {o : Obj} (h : Locked C f v n xs base w w1) (hg : ((w1.alloc o).drew).grownBy w2 v.ownBlock) (hvw : ∀ k, v.ownBlock = some k → k < w.heap.size) :
    w2.cell? ⟨w.heap.size, 0, none⟩ = some (.pointer (some ⟨C, 0, none⟩)) := by
  have hl := block_lt h.cb
  have e1 : ((w1.alloc o).drew).heap[w.heap.size]? = w1.heap[w.heap.size]? := Below.heap_alloc _ _ _ hl
  rw [cell_at ((hg.block _ (by show _ < (w1.alloc o).heap.size; simp; omega) (fun e => by have := hvw _ e.symm; omega)).trans (e1.trans h.cb))]
  rfl

theorem moved {C : Nat} {f v : Value} {n : Nat} {xs : List Value} {base : Nat} {w w1 w2 : World} {o : Obj} {g cap2 : Nat} (h : Locked C f v n xs base w w1) (hvC : v.ownBlock ≠ some C) (hvw : ∀ k, v.ownBlock = some k → k < w.heap.size)
    (hown : w2.ownsRow base 52 1 (.slice (some ⟨g, 0, none⟩) (n + 1) cap2) (n + 1) (xs ++ [.pointer (some ⟨w.heap.size + 1, 0, none⟩)]))
    (hg : ((w1.alloc o).drew).grownBy w2 v.ownBlock) (hat : v.ownBlock = some g ∨ g = ((w1.alloc o).drew).heap.size) (hC : C < w.heap.size) :
    Moved 1 C f v n xs base w g cap2 (w2.setCell ⟨C, 8, none⟩ (.slice (some ⟨g, 0, none⟩) (n + 1) cap2)) := by
  have hsz := h.size
  have s1 : ((w1.alloc o).drew).heap.size = w.heap.size + 4 := by show (w1.alloc o).heap.size = _; simp; omega
  have kd : Keeps (fun b => b = C ∨ v.ownBlock = some b) w w1.drew := (h.keep.mono (fun _ e => Or.inl e)).drew
  have k2 : Keeps (fun b => b = C ∨ v.ownBlock = some b) w w2 := ((h.keep.mono (fun _ e => Or.inl e)).alloc o).drew.grown hg (fun k _ e => Or.inr e)
  have hgC : g ≠ C := by
    rcases hat with e | e
    · intro x; subst x; exact hvC e
    · omega
  have new : ∀ b, w.heap.size ≤ b → b < w.heap.size + 3 → (w2.setCell ⟨C, 8, none⟩ (.slice (some ⟨g, 0, none⟩) (n + 1) cap2)).heap[b]? = w1.heap[b]? := fun b h1 h2 => by
    rw [Below.heap_setCell _ _ _ _ (by show b ≠ C; omega), hg.block b (by omega) (fun e => by have := hvw b e.symm; omega)]
    exact Below.heap_alloc _ _ _ (by omega)
  refine ⟨?_, (new _ (by omega) (by omega)).trans h.cb, (new _ (by omega) (by omega)).trans h.st, (new _ (by omega) (by omega)).trans h.sb, ?_, ?_, hgC, k2.setCell (p := ⟨C, 8, none⟩) (fun _ => Or.inl rfl) _⟩
  · rw [heap_setCell_same _ C 8 _ 51 _ (app_C h hg hvC)]
    rfl
  · exact owns_keep (D := (· = C)) hown ((Keeps.refl (· = C) w2).setCell (p := ⟨C, 8, none⟩) (fun _ => rfl) _) (fun k hk e => by simp [Value.ownBlock] at hk; omega)
  · rcases hat with e | e
    · exact .inl e
    · exact .inr (by omega)

theorem moved_drew {m : Int} {C : Nat} {f v : Value} {n : Nat} {xs : List Value} {base : Nat} {w w' : World} {g cap2 : Nat} (h : Moved m C f v n xs base w g cap2 w'.drew) : Moved m C f v n xs base w g cap2 w' :=
  ⟨h.c, h.cb, h.st, h.sb, h.own, h.lies, h.gC, ⟨h.keep.os, h.keep.tape, h.keep.output, h.keep.size, h.keep.block⟩⟩
theorem unlocked {C : Nat} {f v : Value} {n : Nat} {xs : List Value} {base : Nat} {w w' : World} {g cap2 : Nat} (h : Moved 1 C f v n xs base w g cap2 w') (hC : C < w.heap.size) : Moved 0 C f v n xs base w g cap2 (w'.setCell ⟨C, 2, none⟩ (.int .i32 0)) := by
  have far : ∀ b, b ≠ C → (w'.setCell ⟨C, 2, none⟩ (.int .i32 0)).heap[b]? = w'.heap[b]? := fun b hb => Below.heap_setCell _ _ _ _ hb
  refine ⟨?_, (far _ (by omega)).trans h.cb, (far _ (by omega)).trans h.st, (far _ (by omega)).trans h.sb, ?_, h.lies, h.gC, h.keep.setCell (p := ⟨C, 2, none⟩) (fun _ => Or.inl rfl) _⟩
  · rw [heap_setCell_same _ C 2 _ 51 _ h.c]
    rfl
  · exact owns_keep (D := (· = C)) h.own ((Keeps.refl (· = C) w').setCell (p := ⟨C, 2, none⟩) (fun _ => rfl) _) (fun k hk e => by have := h.gC; simp [Value.ownBlock] at hk; omega)

set_option maxHeartbeats 4000000 in
theorem onMove_any (C : Nat) (fn : Fn) (cap : Array Value) (v : Value) (n : Nat) (xs : List Value) (base : Nat) (w : World) (hC : w.heap[C]? = some (.cells (clk 0 v) 51 (0, 0))) (hown : w.ownsRow base 52 1 v n xs) (hvC : v.ownBlock ≠ some C) (hbase : base ≤ w.heap.size) (hn : n ≤ 1048576) :
    Calls Yba.prog 7 #[.pointer (some ⟨C, 0, none⟩), .func fn #[] cap] w fun e w' => e = .returned (.func (.func 18) #[] #[.pointer (some ⟨w.heap.size, 0, none⟩), .pointer (some ⟨w.heap.size + 1 + 1, 0, none⟩)]) ∧ ∃ g cap2, Moved 0 C (.func fn #[] cap) v n xs base w g cap2 w' := by
  have hvw : ∀ k, v.ownBlock = some k → k < w.heap.size := fun k hk => (owns_lt hown hk).2
  have HV := hide hvw
  clear hvw
  have HL := hide (locked (f := .func fn #[] cap) hC hown hvC)
  have hlt := block_lt hC
  have c2 : (W0 C (.func fn #[] cap) w).cell? ⟨C, 2, none⟩ = some (.int .i32 0) := by rw [cell_at ((W0_at hlt).trans hC)]; rfl
  have f2 : (W0 C (.func fn #[] cap) w).frozen? ⟨C, 2, none⟩ = false := frozen_at ((W0_at hlt).trans hC) 2
  have C2 := hide c2
  have F2 := hide f2
  clear c2 f2 hC hown
  go_enter_defers Yba.func7, Yba.ntmps7
  go_wp2_with fail
  refine (lock_free Yba.muLib ⟨C, 2, none⟩ (W0 C (.func fn #[] cap) w) C2.out F2.out).mono ?_
  rintro e w1 ⟨rfl, rfl⟩
  generalize (W0 C (.func fn #[] cap) w).setCell ⟨C, 2, none⟩ (.int .i32 1) = w1 at HL ⊢
  clear C2 F2
  have a1 : w1.cell? ⟨w.heap.size, 0, none⟩ = some (.pointer (some ⟨C, 0, none⟩)) := by rw [cell_at HL.out.cb]; rfl
  have a2 : w1.cell? ⟨C, 8, none⟩ = some v := by rw [cell_at HL.out.c]; rfl
  have a3 : w1.cell? ⟨w.heap.size + 1 + 1, 0, none⟩ = some (.pointer (some ⟨w.heap.size + 1, 0, none⟩)) := by rw [cell_at HL.out.sb]; rfl
  obtain ⟨i0, hi, hz0, hz1, hz2⟩ := info_parts Yba.info52
  go_wp2_with fail
  have a2' : ∀ o, (w1.alloc o).cell? ⟨C, 8, none⟩ = some v := fun o => by rw [cell_at ((Below.heap_alloc _ _ _ (block_lt HL.out.c)).trans HL.out.c)]; rfl
  have a1' : ∀ o, (w1.alloc o).cell? ⟨w.heap.size, 0, none⟩ = some (.pointer (some ⟨C, 0, none⟩)) := fun o => by rw [cell_at ((Below.heap_alloc _ _ _ (block_lt HL.out.cb)).trans HL.out.cb)]; rfl
  have Hb := hide hbase
  have Ho := hide HL.out.own
  have Hs := hide HL.out.size
  have HVC := hide hvC
  clear hvC
  go_cut [] from 16 to 25 (fun w' => ∃ g cap2, Hid (Moved 1 C (.func fn #[] cap) v n xs base w g cap2 w'))
  case first =>
    refine wp_region_noPanic ?_
    go_region_law (first | (refine step_append_lies _ rfl _ _ 41 rfl base 52 i0 (.pointer none) 1 8 Yba.underlying41 hi hz0 hz1 hz2 rfl (by decide) v n xs rfl (by exact (Ho.out.alloc _).drew) ⟨w1.heap.size, 0, none⟩ 1 1 [.pointer (some ⟨w.heap.size + 1, 0, none⟩)] rfl rfl (by exact cell_one_new _ _ _) (fun u hu => by simp at hu; subst hu; rfl) (by decide) (by unfold maxLen; omega) (by omega) (by simp; have := Hs.out; have := Hb.out; omega) _ rfl ?_; intro g cap2 w2 hown2 hgrow hat hlt2; have q := app_C HL.out hgrow HVC.out; have q1 : w2.cell? ⟨C, 8, none⟩ = some v := (by rw [cell_at q]; rfl); have q2 := frozen_at q 8; have q3 := app_cb HL.out hgrow HV.out; have HM := hide (moved HL.out HVC.out HV.out hown2 hgrow hat hlt); clear q hown2 hgrow hat hlt2))
    all_goals
      refine NoPanic.normal ?_
      go_wp2
      go_meet
      case rel => exact ⟨_, _, HM⟩
  case rest =>
    obtain ⟨g, cap2, HM⟩ := hcut
    clear a1 a2 a3 a1' a2' HL Ho Hs Hb hi hz0 hz1 hz2
    go_wp2
    refine leaves_cons (f := 17) (args := #[.pointer (some ⟨C, 2, none⟩)]) (by simp) (by simp [go_sem]) ?_
    refine (unlock_deferred Yba.muLib ⟨C, 2, none⟩ .returning _ ?_ ?_).mono ?_
    · rw [cell_at HM.out.c]; rfl
    · exact frozen_at HM.out.c 2
    rintro e u' w'' ⟨rfl, rfl, rfl⟩
    exact ⟨_, results_tmp rfl _ _ _, rfl, _, _, unlocked HM.out hlt⟩
end Go.Proofs.Ybulkdszi
