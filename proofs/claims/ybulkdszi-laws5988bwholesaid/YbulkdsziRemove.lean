import Derived.Test.YbulkdsziSlices
import Derived.Deep.RegionWith
namespace Go.Proofs.Ybulkdszi
open Go.RowKit Go.Shelf Go.MuLone Go.Sort

/-- A settler's address, as slices.Delete's contract tells it. -/
def sad (s : Nat) : Option Addr := some ⟨s, 0, none⟩
theorem sptr_map (ps : List Nat) : ps.map sptr = (ps.map sad).map Value.pointer := by simp [sptr, sad]

theorem take_put (cur : Array Value) (ts us : List (Option Addr)) (h : (ts ++ us).length ≤ cur.size) : (putCells Value.pointer 0 (ts ++ us).toArray cur).toList.take ts.length = ts.map Value.pointer := by
  apply List.ext_getElem?
  intro j
  by_cases hj : j < ts.length
  · rw [List.getElem?_take_of_lt hj, Array.getElem?_toList]
    have h1 : j < cur.size := by simp at h; omega
    have h2 : j < ts.length + us.length := by omega
    simp [putCells, h1, h2, hj]
  · rw [List.getElem?_take_eq_none (by omega), List.getElem?_eq_none (by simp; omega)]

/-- The row behind slices.Delete. -/
theorem del_world {w : World} {base g n cap k : Nat} {ps : List Nat} (q : Nat) (h : w.ownsRow base 52 1 (.slice (some ⟨g, 0, none⟩) n cap) n (ps.map sptr)) (hl : ps.length = n) (hk : k < n)
    {w' : World} (hw : w' = putRow Value.pointer (Sort.ahead w q) g 0 ((ps.map sad).take k ++ (ps.map sad).drop (k + 1) ++ List.replicate 1 none).toArray) :
    w'.ownsRow base 52 1 (.slice (some ⟨g, 0, none⟩) (n - 1) cap) (n - 1) ((ps.take k ++ ps.drop (k + 1)).map sptr) ∧ Keeps (· = g) w w' := by
  rcases h.2 with ⟨h', _⟩ | ⟨g', cap', cur, h', hb, hg, hnc, hcm, hcs, htake⟩
  · cases h'
  cases h'
  have hlen : ((ps.map sad).take k ++ (ps.map sad).drop (k + 1)).length = n - 1 := by simp; omega
  have hblk : w'.heap[g]? = some (.cells (putCells Value.pointer 0 ((ps.map sad).take k ++ (ps.map sad).drop (k + 1) ++ List.replicate 1 none).toArray cur) 52 (0, 0)) := by
    rw [hw]
    simp [putRow, mapBlock, Sort.ahead, Array.getElem?_modify, hg, onCells]
  constructor
  · refine ⟨by simp; omega, .inr ⟨g, cap, _, rfl, hb, hblk, by omega, hcm, by simp [putCells]; omega, ?_⟩⟩
    rw [Nat.mul_one, ← hlen, take_put cur _ _ (by simp at hlen ⊢; omega), sptr_map]
    simp
  · rw [hw]
    exact ⟨rfl, rfl, rfl, by simp [putRow, mapBlock, Sort.ahead], fun b _ hne => by simp [putRow, mapBlock, Sort.ahead, Array.getElem?_modify, Ne.symm hne]⟩

theorem own_cell {w : World} {base g n cap : Nat} {ps : List Nat} (h : w.ownsRow base 52 1 (.slice (some ⟨g, 0, none⟩) n cap) n (ps.map sptr)) (hl : ps.length = n) : ∀ j, j < n → w.cell? ⟨g, 0 + j, none⟩ = some (sptr (ps.getD j 0)) := fun j hj => by
  rw [Nat.zero_add, h.cellAt j (by omega)]
  simp [List.getElem?_map, List.getD, List.getElem?_eq_getElem (show j < ps.length by omega)]

theorem delete_any (base g n cap k : Nat) (ps : List Nat) (w : World) (h : w.ownsRow base 52 1 (.slice (some ⟨g, 0, none⟩) n cap) n (ps.map sptr)) (hl : ps.length = n) (hk : k < n) :
    Calls Yba.prog 20 #[.slice (some ⟨g, 0, none⟩) n cap, .int .i64 (k : Int), .int .i64 ((k : Int) + 1)] w fun e w' => e = .returned (.slice (some ⟨g, 0, none⟩) (n - 1) cap) ∧
      w'.ownsRow base 52 1 (.slice (some ⟨g, 0, none⟩) (n - 1) cap) (n - 1) ((ps.take k ++ ps.drop (k + 1)).map sptr) ∧ Keeps (· = g) w w' := by
  obtain ⟨i0, hi, hz0, hz1, hz2⟩ := info_parts Yba.info52
  have hcap : n ≤ cap ∧ cap ≤ maxLen := by
    rcases h.2 with ⟨h', _⟩ | ⟨g', cap', cur, h', hb, hg, hnc, hcm, hcs, htake⟩
    · cases h'
    · cases h'; exact ⟨hnc, hcm⟩
  have hfr : ∀ j, w.frozen? ⟨g, j, none⟩ = false := fun j => h.frozenAt j
  have hsz : (ps.map sad).toArray.size = n := by simp [hl]
  have H : Holds Value.pointer w g 0 (ps.map sad).toArray := fun j hj => by
    rw [hsz] at hj
    refine ⟨?_, by rw [Nat.zero_add]; exact hfr j⟩
    rw [own_cell h hl j hj]
    have hj' : j < ps.length := by omega
    simp [sptr, sad, List.getD, hj']
  have hc := AnyE.slices_Delete Yba.laysDel Value.pointer (fun _ => rfl) (none : Option Addr) Yba.zeroValue52 i0 hi hz1 g 0 cap k (k + 1) (ps.map sad).toArray w H (by rw [hsz]; exact hcap.1) (by have := hcap.2; unfold maxLen at this; exact this) (by omega) (by rw [hsz]; omega)
  rw [hsz] at hc
  have e1 : ((k + 1 : Nat) : Int) = (k : Int) + 1 := by omega
  rw [e1] at hc
  have e2 : n - (k + 1 - k) = n - 1 := by omega
  have e3 : k + 1 - k = 1 := by omega
  rw [e2, e3] at hc
  refine Calls.mono hc ?_
  rintro e w' ⟨rfl, q, hw⟩
  exact ⟨rfl, del_world q h hl hk hw⟩

/-- slices.Index of whatever slice of settlers that the call owns. -/
theorem index_own (base : Nat) (v : Value) (ps : List Nat) (s : Nat) (w : World) (h : w.ownsRow base 52 1 v ps.length (ps.map sptr)) (hbig : ps.length ≤ 1048576)
    (hs : ∃ c, w.heap[s]? = some (.cells c 54 (0, 0))) (hp : ∀ p ∈ ps, ∃ c, w.heap[p]? = some (.cells c 54 (0, 0))) :
    Calls Yba.prog 19 #[v, .pointer (some ⟨s, 0, none⟩)] w fun e w' => e = .returned (.int .i64 (idx ps s)) ∧ w' = w := by
  by_cases h0 : ps.length = 0
  · obtain rfl : ps = [] := List.eq_nil_of_length_eq_zero h0
    obtain ⟨a, cap, rfl⟩ : ∃ a cap, v = .slice a 0 cap := by
      rcases h.2 with ⟨h', _⟩ | ⟨g', cap', cur, h', _⟩
      · exact ⟨_, _, h'⟩
      · exact ⟨_, _, h'⟩
    refine (index_empty a cap _ w).mono ?_
    rintro e w' ⟨rfl, rfl⟩
    exact ⟨ret_i64 (idx_miss (by simp)).symm, rfl⟩
  · obtain ⟨g, cap, rfl, _, _⟩ := h.form (by omega)
    exact index_pos g ps.length cap ps s w rfl (by omega) (own_cell h rfl) hs hp

/-- The settlers that are left. -/
def rem (ps : List Nat) (s : Nat) : List Nat := if s ∈ ps then ps.take (pos ps s) ++ ps.drop (pos ps s + 1) else ps
theorem pos_lt {ps : List Nat} {s : Nat} (h : s ∈ ps) : pos ps s < ps.length := by
  obtain ⟨A, B, rfl, hA⟩ := List.append_of_mem h |>.elim fun A hh => hh.elim fun B e => (⟨A, B, e, trivial⟩ : ∃ A B, ps = A ++ s :: B ∧ True)
  unfold pos
  have : ((A ++ s :: B).takeWhile fun p => p != s).length ≤ A.length := by
    induction A with
    | nil => simp
    | cons a A ih =>
      by_cases e : a = s
      · simp [e]
      · simp only [List.cons_append, List.takeWhile_cons]
        have : (a != s) = true := by simp [e]
        rw [if_pos this]
        simp only [List.length_cons]
        have := ih (by simp)
        omega
  simp; omega

structure Removed (C : Nat) (v : Value) (ps : List Nat) (base : Nat) (m : Int) (v' : Value) (w w' : World) : Prop where
  c : w'.heap[C]? = some (.cells (clk m v') 51 (0, 0))
  own : w'.ownsRow base 52 1 v' ps.length (ps.map sptr)
  blk : v'.ownBlock = v.ownBlock
  keep : Keeps (fun b => b = C ∨ v.ownBlock = some b) w w'

theorem removed_lock {C : Nat} {v : Value} {ps : List Nat} {base : Nat} {w : World} (hC : w.heap[C]? = some (.cells (clk 0 v) 51 (0, 0))) (hown : w.ownsRow base 52 1 v ps.length (ps.map sptr)) (hvC : v.ownBlock ≠ some C) :
    Removed C v ps base 1 v w (w.setCell ⟨C, 2, none⟩ (.int .i32 1)) := by
  have k : Keeps (· = C) w (w.setCell ⟨C, 2, none⟩ (.int .i32 1)) := (Keeps.refl (· = C) w).setCell (p := ⟨C, 2, none⟩) (fun _ => rfl) _
  refine ⟨?_, owns_keep hown k (fun g hg e => hvC (by rw [hg, e])), rfl, k.mono (fun _ e => .inl e)⟩
  rw [heap_setCell_same _ C 2 _ 51 _ hC]
  rfl
theorem removed_drew {C : Nat} {v : Value} {ps : List Nat} {base : Nat} {m : Int} {v' : Value} {w w' : World} (h : Removed C v ps base m v' w w') : Removed C v ps base m v' w w'.drew :=
  ⟨h.c, h.own.drew, h.blk, h.keep.drew⟩
theorem removed_unlock {C : Nat} {v : Value} {ps : List Nat} {base : Nat} {v' : Value} {w w' : World} (h : Removed C v ps base 1 v' w w') (hvC : v.ownBlock ≠ some C) : Removed C v ps base 0 v' w (w'.setCell ⟨C, 2, none⟩ (.int .i32 0)) := by
  have k : Keeps (· = C) w' (w'.setCell ⟨C, 2, none⟩ (.int .i32 0)) := (Keeps.refl (· = C) w').setCell (p := ⟨C, 2, none⟩) (fun _ => rfl) _
  refine ⟨?_, owns_keep h.own k (fun g hg e => hvC (by rw [← h.blk, hg, e])), h.blk, h.keep.setCell (p := ⟨C, 2, none⟩) (fun _ => .inl rfl) _⟩
  rw [heap_setCell_same _ C 2 _ 51 _ h.c]
  rfl

set_option maxHeartbeats 4000000 in
set_option maxRecDepth 100000 in
theorem remove_miss (C cb sb s base : Nat) (v : Value) (ps : List Nat) (w : World) (hC : w.heap[C]? = some (.cells (clk 0 v) 51 (0, 0))) (hcb : w.heap[cb]? = some (.cells #[.pointer (some ⟨C, 0, none⟩)] 31 (0, 0))) (hsb : w.heap[sb]? = some (.cells #[.pointer (some ⟨s, 0, none⟩)] 52 (0, 0)))
    (hown : w.ownsRow base 52 1 v ps.length (ps.map sptr)) (hvC : v.ownBlock ≠ some C) (hvc : v.ownBlock ≠ some cb) (hvs : v.ownBlock ≠ some sb) (hs : ∃ c, w.heap[s]? = some (.cells c 54 (0, 0))) (hp : ∀ p ∈ ps, ∃ c, w.heap[p]? = some (.cells c 54 (0, 0))) (hvp : ∀ p, p = s ∨ p ∈ ps → v.ownBlock ≠ some p) (hn : ps.length ≤ 1048576) (hm : s ∉ ps) :
    Calls Yba.prog 18 #[.pointer (some ⟨cb, 0, none⟩), .pointer (some ⟨sb, 0, none⟩)] w fun e w' => e = .returned (.tuple #[]) ∧ Removed C v ps base 0 v w w' := by
  have HL := hide (removed_lock hC hown hvC)
  have hCb : C ≠ cb := fun e => by subst e; rw [hC] at hcb; simp at hcb
  have hCs : C ≠ sb := fun e => by subst e; rw [hC] at hsb; simp at hsb
  have c2 : w.cell? ⟨C, 2, none⟩ = some (.int .i32 0) := by rw [cell_at hC]; rfl
  have f2 : w.frozen? ⟨C, 2, none⟩ = false := frozen_at hC 2
  have ccb : w.cell? ⟨cb, 0, none⟩ = some (.pointer (some ⟨C, 0, none⟩)) := by rw [cell_at hcb]; rfl
  have KB := hide hcb
  have KS := hide hsb
  have HS := hide hs
  have HP := hide hp
  have HOC := hide hC
  clear hcb hsb hs hp hC hown
  go_enter_defers Yba.func18, Yba.ntmps18
  go_wp2_with fail
  refine (lock_free Yba.muLib ⟨C, 2, none⟩ w c2 f2).mono ?_
  rintro e w1 ⟨rfl, rfl⟩
  generalize w.setCell ⟨C, 2, none⟩ (.int .i32 1) = w1 at HL ⊢
  clear c2 f2 ccb
  have ccb : w1.cell? ⟨cb, 0, none⟩ = some (.pointer (some ⟨C, 0, none⟩)) := by rw [cell_at (HL.out.keep.at KB.out (by rintro (e | e); exact hCb e.symm; exact hvc e))]; rfl
  have csb : w1.cell? ⟨sb, 0, none⟩ = some (.pointer (some ⟨s, 0, none⟩)) := by rw [cell_at (HL.out.keep.at KS.out (by rintro (e | e); exact hCs e.symm; exact hvs e))]; rfl
  have cv : w1.cell? ⟨C, 8, none⟩ = some v := by rw [cell_at HL.out.c]; rfl
  have hsC : ∀ p, (∃ c, w.heap[p]? = some (.cells c 54 (0, 0))) → v.ownBlock ≠ some p → ∃ c, w1.heap[p]? = some (.cells c 54 (0, 0)) := fun p hh hne => by
    obtain ⟨c, hc⟩ := hh
    refine ⟨c, HL.out.keep.at hc ?_⟩
    rintro (e | e)
    · rw [e] at hc; have := HOC.out; rw [this] at hc; simp at hc
    · exact hne e
  have HS1 := hide (hsC s HS.out (hvp s (.inl rfl)))
  have HP1 := hide (fun p (h : p ∈ ps) => hsC p (HP.out p h) (hvp p (.inr h)))
  clear hsC
  go_wp2_with fail
  refine wp_still_tail 5 mixed (by kernel_rfl) ?_
  simp only [List.take_succ_cons, List.take_zero, List.drop_succ_cons, List.drop_zero]
  repeat still_step
  try refine wpStill_nil ?_
  go_wp2_with fail
  refine (index_own base v ps s w1.drew HL.out.own.drew hn HS1.out HP1.out).mono ?_
  rintro e w2 ⟨rfl, rfl⟩
  rw [idx_miss hm]
  go_wp2
  refine leaves_cons (f := 17) (args := #[.pointer (some ⟨C, 2, none⟩)]) (by simp) (by simp [go_sem]) ?_
  refine (unlock_deferred Yba.muLib ⟨C, 2, none⟩ .returning _ ?_ ?_).mono ?_
  · rw [cell_at (w := w1.drew) HL.out.c]; rfl
  · exact frozen_at (w := w1.drew) HL.out.c 2
  rintro e u' w'' ⟨rfl, rfl, rfl⟩
  exact ⟨_, results_none rfl _ _ _, rfl, removed_unlock (removed_drew HL.out) hvC⟩
theorem wrap_small {x : Int} (h0 : 0 ≤ x) (h1 : x ≤ 2097152) : IntKind.i64.wrap x = x := by
  rw [IntKind.wrap_i64]
  omega
theorem removed_store {C g n cap : Nat} {ps ps' : List Nat} {base : Nat} {w w1 w3 : World} (h : Removed C (.slice (some ⟨g, 0, none⟩) n cap) ps base 1 (.slice (some ⟨g, 0, none⟩) n cap) w w1) (hvC : (Value.slice (some ⟨g, 0, none⟩) n cap).ownBlock ≠ some C)
    (hown : w3.ownsRow base 52 1 (.slice (some ⟨g, 0, none⟩) (n - 1) cap) (n - 1) (ps'.map sptr)) (hk : Keeps (· = g) w1.drew w3) (hc : w3.heap[C]? = some (.cells (clk 1 (.slice (some ⟨g, 0, none⟩) n cap)) 51 (0, 0))) :
    Removed C (.slice (some ⟨g, 0, none⟩) n cap) ps' base 1 (.slice (some ⟨g, 0, none⟩) (n - 1) cap) w (w3.setCell ⟨C, 8, none⟩ (.slice (some ⟨g, 0, none⟩) (n - 1) cap)) := by
  have hgC : g ≠ C := fun e => hvC (by simp [Value.ownBlock, e])
  have hl : ps'.length = n - 1 := by have := hown.1; simpa using this
  refine ⟨?_, ?_, rfl, ((h.keep.drew).thenNew hk (fun i _ e => .inr (by simp [Value.ownBlock, e]))).setCell (p := ⟨C, 8, none⟩) (fun _ => .inl rfl) _⟩
  · rw [heap_setCell_same _ C 8 _ 51 _ hc]
    rfl
  · rw [hl]
    exact owns_keep (D := (· = C)) hown ((Keeps.refl (· = C) w3).setCell (p := ⟨C, 8, none⟩) (fun _ => rfl) _) (fun k hk e => by simp [Value.ownBlock] at hk; omega)

set_option maxHeartbeats 4000000 in
set_option maxRecDepth 100000 in
theorem remove_hit (C cb sb s base : Nat) (v : Value) (ps : List Nat) (w : World) (hC : w.heap[C]? = some (.cells (clk 0 v) 51 (0, 0))) (hcb : w.heap[cb]? = some (.cells #[.pointer (some ⟨C, 0, none⟩)] 31 (0, 0))) (hsb : w.heap[sb]? = some (.cells #[.pointer (some ⟨s, 0, none⟩)] 52 (0, 0)))
    (hown : w.ownsRow base 52 1 v ps.length (ps.map sptr)) (hvC : v.ownBlock ≠ some C) (hvc : v.ownBlock ≠ some cb) (hvs : v.ownBlock ≠ some sb) (hs : ∃ c, w.heap[s]? = some (.cells c 54 (0, 0))) (hp : ∀ p ∈ ps, ∃ c, w.heap[p]? = some (.cells c 54 (0, 0))) (hvp : ∀ p, p = s ∨ p ∈ ps → v.ownBlock ≠ some p) (hn : ps.length ≤ 1048576) (hm : s ∈ ps) :
    Calls Yba.prog 18 #[.pointer (some ⟨cb, 0, none⟩), .pointer (some ⟨sb, 0, none⟩)] w fun e w' => e = .returned (.tuple #[]) ∧ ∃ v', Removed C v (ps.take (pos ps s) ++ ps.drop (pos ps s + 1)) base 0 v' w w' := by
  have HL := hide (removed_lock hC hown hvC)
  have hCb : C ≠ cb := fun e => by subst e; rw [hC] at hcb; simp at hcb
  have hCs : C ≠ sb := fun e => by subst e; rw [hC] at hsb; simp at hsb
  have c2 : w.cell? ⟨C, 2, none⟩ = some (.int .i32 0) := by rw [cell_at hC]; rfl
  have f2 : w.frozen? ⟨C, 2, none⟩ = false := frozen_at hC 2
  have ccb : w.cell? ⟨cb, 0, none⟩ = some (.pointer (some ⟨C, 0, none⟩)) := by rw [cell_at hcb]; rfl
  have KB := hide hcb
  have KS := hide hsb
  have HS := hide hs
  have HP := hide hp
  have HOC := hide hC
  clear hcb hsb hs hp hC hown
  go_enter_defers Yba.func18, Yba.ntmps18
  go_wp2_with fail
  refine (lock_free Yba.muLib ⟨C, 2, none⟩ w c2 f2).mono ?_
  rintro e w1 ⟨rfl, rfl⟩
  generalize w.setCell ⟨C, 2, none⟩ (.int .i32 1) = w1 at HL ⊢
  clear c2 f2 ccb
  have ccb : w1.cell? ⟨cb, 0, none⟩ = some (.pointer (some ⟨C, 0, none⟩)) := by rw [cell_at (HL.out.keep.at KB.out (by rintro (e | e); exact hCb e.symm; exact hvc e))]; rfl
  have csb : w1.cell? ⟨sb, 0, none⟩ = some (.pointer (some ⟨s, 0, none⟩)) := by rw [cell_at (HL.out.keep.at KS.out (by rintro (e | e); exact hCs e.symm; exact hvs e))]; rfl
  have cv : w1.cell? ⟨C, 8, none⟩ = some v := by rw [cell_at HL.out.c]; rfl
  have hsC : ∀ p, (∃ c, w.heap[p]? = some (.cells c 54 (0, 0))) → v.ownBlock ≠ some p → ∃ c, w1.heap[p]? = some (.cells c 54 (0, 0)) := fun p hh hne => by
    obtain ⟨c, hc⟩ := hh
    refine ⟨c, HL.out.keep.at hc ?_⟩
    rintro (e | e)
    · rw [e] at hc; have := HOC.out; rw [this] at hc; simp at hc
    · exact hne e
  have HS1 := hide (hsC s HS.out (hvp s (.inl rfl)))
  have HP1 := hide (fun p (h : p ∈ ps) => hsC p (HP.out p h) (hvp p (.inr h)))
  clear hsC
  go_wp2_with fail
  refine wp_still_tail 5 mixed (by kernel_rfl) ?_
  simp only [List.take_succ_cons, List.take_zero, List.drop_succ_cons, List.drop_zero]
  repeat still_step
  try refine wpStill_nil ?_
  go_wp2_with fail
  refine (index_own base v ps s w1.drew HL.out.own.drew hn HS1.out HP1.out).mono ?_
  rintro e w2 ⟨rfl, rfl⟩
  have hidx : idx ps s = (pos ps s : Int) := by simp [idx, hm]
  have hlt := pos_lt hm
  rw [hidx]
  clear hidx
  obtain ⟨k, hke⟩ : ∃ k, k = pos ps s := ⟨_, rfl⟩
  rw [← hke] at hlt ⊢
  have HKE := hide hke
  clear hke
  have HL2 := hide (removed_drew HL.out)
  clear HL ccb csb cv HS1 HP1 HS HP
  generalize w1.drew = w2 at HL2 ⊢
  obtain ⟨g, cap, rfl, _, _⟩ := HL2.out.own.form (by omega)
  have hgC : g ≠ C := fun e => hvC (by simp [Value.ownBlock, e])
  have hgc : g ≠ cb := fun e => hvc (by simp [Value.ownBlock, e])
  have q1 : w2.heap[cb]? = some (.cells #[.pointer (some ⟨C, 0, none⟩)] 31 (0, 0)) := HL2.out.keep.at KB.out (by rintro (e | e); exact hCb e.symm; exact hvc e)
  have c1 : ∀ w3, Keeps (· = g) w2.drew w3 → w3.cell? ⟨cb, 0, none⟩ = some (.pointer (some ⟨C, 0, none⟩)) ∧ w3.heap[C]? = some (.cells (clk 1 (.slice (some ⟨g, 0, none⟩) ps.length cap)) 51 (0, 0)) := fun w3 hk => by
    refine ⟨?_, hk.at (w := w2.drew) HL2.out.c (fun e => hgC e.symm)⟩
    rw [cell_at (hk.at (w := w2.drew) q1 (fun e => hgc e.symm))]
    rfl
  have HC1 := hide c1
  have ccb : w2.cell? ⟨cb, 0, none⟩ = some (.pointer (some ⟨C, 0, none⟩)) := by rw [cell_at q1]; rfl
  have cv : w2.cell? ⟨C, 8, none⟩ = some (.slice (some ⟨g, 0, none⟩) ps.length cap) := by rw [cell_at HL2.out.c]; rfl
  have HW : Hid (IntKind.i64.wrap ((k : Int) + 1) = (k : Int) + 1) := hide (wrap_small (by omega) (by omega))
  have HO := hide HL2.out.own.drew
  have HVC := hide hvC
  clear c1 q1 hvC hvc hvs hvp
  go_wp2_with fail
  refine wp_region_noPanic ?_
  go_region_with (go_at_call 20; rw [HW.out]; refine (delete_any base g ps.length cap k ps w2.drew HO.out rfl hlt).mono ?_; rintro e w3 ⟨rfl, hown3, hk3⟩; have hq := HC1.out w3 hk3; have q1 := hq.1; have q2 : w3.cell? ⟨C, 8, none⟩ = some (.slice (some ⟨g, 0, none⟩) ps.length cap) := (by rw [cell_at hq.2]; rfl); have q3 := frozen_at hq.2 8; have HM := hide (removed_store HL2.out HVC.out hown3 hk3 hq.2); clear hq hown3 hk3)
  all_goals
    refine NoPanic.normal ?_
    go_wp2
    refine leaves_cons (f := 17) (args := #[.pointer (some ⟨C, 2, none⟩)]) (by simp) (by simp [go_sem]) ?_
    refine (unlock_deferred Yba.muLib ⟨C, 2, none⟩ .returning _ ?_ ?_).mono ?_
    · rw [cell_at HM.out.c]; rfl
    · exact frozen_at HM.out.c 2
    rintro e u' w'' ⟨rfl, rfl, rfl⟩
    exact ⟨_, results_none rfl _ _ _, rfl, _, by rw [← HKE.out]; exact removed_unlock HM.out HVC.out⟩

/-- The remove function: what is left is 'rem ps s'. -/
theorem remove_any (C cb sb s base : Nat) (v : Value) (ps : List Nat) (w : World) (hC : w.heap[C]? = some (.cells (clk 0 v) 51 (0, 0))) (hcb : w.heap[cb]? = some (.cells #[.pointer (some ⟨C, 0, none⟩)] 31 (0, 0))) (hsb : w.heap[sb]? = some (.cells #[.pointer (some ⟨s, 0, none⟩)] 52 (0, 0)))
    (hown : w.ownsRow base 52 1 v ps.length (ps.map sptr)) (hvC : v.ownBlock ≠ some C) (hvc : v.ownBlock ≠ some cb) (hvs : v.ownBlock ≠ some sb) (hs : ∃ c, w.heap[s]? = some (.cells c 54 (0, 0))) (hp : ∀ p ∈ ps, ∃ c, w.heap[p]? = some (.cells c 54 (0, 0))) (hvp : ∀ p, p = s ∨ p ∈ ps → v.ownBlock ≠ some p) (hn : ps.length ≤ 1048576) :
    Calls Yba.prog 18 #[.pointer (some ⟨cb, 0, none⟩), .pointer (some ⟨sb, 0, none⟩)] w fun e w' => e = .returned (.tuple #[]) ∧ ∃ v', Removed C v (rem ps s) base 0 v' w w' := by
  by_cases hm : s ∈ ps
  · refine (remove_hit C cb sb s base v ps w hC hcb hsb hown hvC hvc hvs hs hp hvp hn hm).mono ?_
    rintro e w' ⟨rfl, v', h⟩
    exact ⟨rfl, v', by rw [rem, if_pos hm]; exact h⟩
  · refine (remove_miss C cb sb s base v ps w hC hcb hsb hown hvC hvc hvs hs hp hvp hn hm).mono ?_
    rintro e w' ⟨rfl, h⟩
    exact ⟨rfl, v, by rw [rem, if_neg hm]; exact h⟩
end Go.Proofs.Ybulkdszi
