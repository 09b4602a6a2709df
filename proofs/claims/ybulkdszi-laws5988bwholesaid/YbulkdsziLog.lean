import Derived.Test.YbulkdsziOnMove
namespace Go.Proofs.Ybulkdszi
open Go.RowKit Go.Maps

theorem Yba.info3 : (Yba.prog.info? 3).map (fun i => (i.zero, i.size, i.bytes)) = some (some (.int .i64 0), 1, 8) := by kernel_rfl
/-- Numbers as cells. -/
def ints (zs : List Int) : List Value := zs.map (Value.int .i64)

structure Logged (L : Nat) (v : Value) (zs : List Int) (base : Nat) (v' : Value) (w w' : World) : Prop where
  l : w'.heap[L]? = some (.cells #[v'] 37 (0, 0))
  own : w'.ownsRow base 3 1 v' zs.length (ints zs)
  lies : ∀ g, v'.ownBlock = some g → v.ownBlock = some g ∨ w.heap.size ≤ g
  keep : Keeps (fun b => b = L ∨ v.ownBlock = some b) w w'

theorem logged {L : Nat} {v : Value} {zs : List Int} {x : Int} {base : Nat} {w w1 : World} {o : Obj} {g cap : Nat} (hL : w.heap[L]? = some (.cells #[v] 37 (0, 0))) (hvL : v.ownBlock ≠ some L)
    (hown : w1.ownsRow base 3 1 (.slice (some ⟨g, 0, none⟩) (zs.length + 1) cap) (zs.length + 1) (ints zs ++ [.int .i64 x])) (hg : (w.alloc o).grownBy w1 v.ownBlock) (hat : v.ownBlock = some g ∨ g = w.heap.size + 1) :
    Logged L v (zs ++ [x]) base (.slice (some ⟨g, 0, none⟩) (zs.length + 1) cap) w (w1.setCell ⟨L, 0, none⟩ (.slice (some ⟨g, 0, none⟩) (zs.length + 1) cap)) := by
  have hl := block_lt hL
  have hgL : g ≠ L := by
    rcases hat with e | e
    · intro x; subst x; exact hvL e
    · omega
  have h1 : w1.heap[L]? = some (.cells #[v] 37 (0, 0)) := by
    rw [hg.block L (by simp; omega) (fun e => hvL e.symm), Below.heap_alloc _ _ _ hl, hL]
  have k1 : Keeps (fun b => b = L ∨ v.ownBlock = some b) w w1 := ((Keeps.refl _ w).alloc o).grown hg (fun k _ e => .inr e)
  refine ⟨?_, ?_, ?_, k1.setCell (p := ⟨L, 0, none⟩) (fun _ => .inl rfl) _⟩
  · rw [heap_setCell_same _ L 0 _ 37 _ h1]
    rfl
  · have e : (zs ++ [x]).length = zs.length + 1 := by simp
    have e2 : ints (zs ++ [x]) = ints zs ++ [.int .i64 x] := by simp [ints]
    rw [e, e2]
    exact owns_keep (D := (· = L)) hown ((Keeps.refl (· = L) w1).setCell (p := ⟨L, 0, none⟩) (fun _ => rfl) _) (fun k hk e => by simp [Value.ownBlock] at hk; omega)
  · intro k hk
    simp only [Value.ownBlock, Option.some.injEq] at hk
    subst hk
    rcases hat with e | e
    · exact .inl e
    · right; omega

set_option maxHeartbeats 1000000 in
theorem log8_any (L ib : Nat) (x : Int) (v : Value) (zs : List Int) (base : Nat) (w : World) (hL : w.heap[L]? = some (.cells #[v] 37 (0, 0))) (hib : w.heap[ib]? = some (.cells #[.int .i64 x] 3 (0, 0))) (hown : w.ownsRow base 3 1 v zs.length (ints zs)) (hvL : v.ownBlock ≠ some L) (hbase : base ≤ w.heap.size) (hn : zs.length ≤ 1048576) :
    Calls Yba.prog 8 #[.pointer (some ⟨L, 0, none⟩), .pointer (some ⟨ib, 0, none⟩)] w fun e w' => e = .returned (.tuple #[]) ∧ ∃ v', Logged L v (zs ++ [x]) base v' w w' := by
  have c1 : w.cell? ⟨L, 0, none⟩ = some v := by rw [cell_at hL]; rfl
  have c2 : w.cell? ⟨ib, 0, none⟩ = some (.int .i64 x) := by rw [cell_at hib]; rfl
  obtain ⟨i0, hi, hz0, hz1, hz2⟩ := info_parts Yba.info3
  have HL := hide hL
  have HO := hide hown
  have HV := hide hvL
  clear hL hib hown hvL
  go_enter Yba.func8, Yba.ntmps8
  go_wp2_with (at_builtin; refine wpList_append_lies _ rfl _ _ 37 rfl base 3 i0 (.int .i64 0) 1 8 Yba.underlying37 hi hz0 hz1 hz2 rfl (by decide) v zs.length (ints zs) rfl (HO.out.alloc _) ⟨w.heap.size, 0, none⟩ 1 1 [.int .i64 x] rfl rfl (cell_one_new _ _ _) (fun u hu => by simp at hu; subst hu; rfl) (by decide) (by unfold maxLen; omega) (by omega) (by simp; omega) _ rfl ?_)
  intro g cap w1 hown1 hgrow hat hlt
  have q1 : w1.heap[L]? = some (.cells #[v] 37 (0, 0)) := by
    rw [hgrow.block L (by simp; have := block_lt HL.out; omega) (fun e => HV.out e.symm), Below.heap_alloc _ _ _ (block_lt HL.out), HL.out]
  have q2 : w1.cell? ⟨L, 0, none⟩ = some v := by rw [cell_at q1]; rfl
  have q3 := frozen_at q1 0
  have HM := hide (logged HL.out HV.out hown1 hgrow hat)
  clear hown1 hgrow hat q1
  go_wp2
  go_end0
  exact ⟨rfl, _, HM.out⟩

set_option maxHeartbeats 1000000 in
theorem log10_any (L ib : Nat) (x : Int) (v : Value) (zs : List Int) (base : Nat) (w : World) (hL : w.heap[L]? = some (.cells #[v] 37 (0, 0))) (hib : w.heap[ib]? = some (.cells #[.int .i64 x] 3 (0, 0))) (hown : w.ownsRow base 3 1 v zs.length (ints zs)) (hvL : v.ownBlock ≠ some L) (hbase : base ≤ w.heap.size) (hn : zs.length ≤ 1048576) :
    Calls Yba.prog 10 #[.pointer (some ⟨L, 0, none⟩), .pointer (some ⟨ib, 0, none⟩)] w fun e w' => e = .returned (.tuple #[]) ∧ ∃ v', Logged L v (zs ++ [x]) base v' w w' := by
  have c1 : w.cell? ⟨L, 0, none⟩ = some v := by rw [cell_at hL]; rfl
  have c2 : w.cell? ⟨ib, 0, none⟩ = some (.int .i64 x) := by rw [cell_at hib]; rfl
  obtain ⟨i0, hi, hz0, hz1, hz2⟩ := info_parts Yba.info3
  have HL := hide hL
  have HO := hide hown
  have HV := hide hvL
  clear hL hib hown hvL
  go_enter Yba.func10, Yba.ntmps10
  go_wp2_with (at_builtin; refine wpList_append_lies _ rfl _ _ 37 rfl base 3 i0 (.int .i64 0) 1 8 Yba.underlying37 hi hz0 hz1 hz2 rfl (by decide) v zs.length (ints zs) rfl (HO.out.alloc _) ⟨w.heap.size, 0, none⟩ 1 1 [.int .i64 x] rfl rfl (cell_one_new _ _ _) (fun u hu => by simp at hu; subst hu; rfl) (by decide) (by unfold maxLen; omega) (by omega) (by simp; omega) _ rfl ?_)
  intro g cap w1 hown1 hgrow hat hlt
  have q1 : w1.heap[L]? = some (.cells #[v] 37 (0, 0)) := by
    rw [hgrow.block L (by simp; have := block_lt HL.out; omega) (fun e => HV.out e.symm), Below.heap_alloc _ _ _ (block_lt HL.out), HL.out]
  have q2 : w1.cell? ⟨L, 0, none⟩ = some v := by rw [cell_at q1]; rfl
  have q3 := frozen_at q1 0
  have HM := hide (logged HL.out HV.out hown1 hgrow hat)
  clear hown1 hgrow hat q1
  go_wp2
  go_end0
  exact ⟨rfl, _, HM.out⟩
end Go.Proofs.Ybulkdszi
