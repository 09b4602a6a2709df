import Derived.Test.YbulkdsziOnMove
import Derived.LaidEqlPtr
import Derived.Lib.Builder
import Derived.Shelf.SlicesE.Delete
namespace Go.Proofs.Ybulkdszi
open Go.RowKit Go.Shelf

def Yba.laysDel_ren : Go.Shelf.Ren := ⟨fun | 45 => 20 | n => n, fun | 0 => 0 | 3 => 3 | 4 => 4 | 22 => 41 | 23 => 52 | n => n, fun | n => n⟩
theorem Yba.laysDel : SlLaysE.n45 Yba.prog Yba.laysDel_ren := {
  mixed := by kernel_rfl
  f45 := ⟨Yba.f20.name, by decide, Yba.func20.trans (congrArg some (by kernel_rfl))⟩
  t0 := Yba.underlying0
  a0 := Yba.isAgg0
  z0 := Yba.sizeOf0
  v0 := Yba.zeroValue0
  t3 := Yba.underlying3
  a3 := Yba.isAgg3
  z3 := Yba.sizeOf3
  v3 := Yba.zeroValue3
  t4 := Yba.underlying4
  a4 := Yba.isAgg4
  z4 := Yba.sizeOf4
  v4 := Yba.zeroValue4
  t22 := Yba.underlying41
  a22 := Yba.isAgg41
  z22 := Yba.sizeOf41
  v22 := Yba.zeroValue41
  a23 := Yba.isAgg52
  z23 := Yba.sizeOf52 }

/-- A settler's address as a value. -/
def sptr (s : Nat) : Value := .pointer (some ⟨s, 0, none⟩)
theorem Yba.info54 : (Yba.prog.info? 54).map (fun i => (i.zero, i.size, i.bytes)) = some (some (.agg #[.nilFunc]), 1, 8) := by kernel_rfl

/-- '==' between two settlers' addresses. -/
theorem run_eq (s p : Nat) (w : World) (hs : ∃ c, w.heap[s]? = some (.cells c 54 (0, 0))) (hp : ∃ c, w.heap[p]? = some (.cells c 54 (0, 0))) :
    (binOp .eql 52 (.pointer (some ⟨s, 0, none⟩)) (.pointer (some ⟨p, 0, none⟩))).run Yba.prog w = .ok (.bool (s == p)) w := by
  obtain ⟨i0, hi, hz0, hz1, hz2⟩ := info_parts Yba.info54
  obtain ⟨c, hc⟩ := hs
  obtain ⟨c', hc'⟩ := hp
  by_cases h : s = p
  · subst h
    rw [run_eql_ptr_same w _ Yba.underlying52 hi]
    simp
  · rw [run_eql_ptr_other w Yba.underlying52 hi (by rw [hz1]; decide) (fun e => h (by injection e)) hc hc']
    simp [h]

/-- Where s stands first; -1 where it does not. -/
def pos (ps : List Nat) (s : Nat) : Nat := (ps.takeWhile (fun p => p != s)).length
def idx (ps : List Nat) (s : Nat) : Int := if s ∈ ps then (pos ps s : Int) else -1
theorem pos_split {A B : List Nat} {s : Nat} (h : s ∉ A) : pos (A ++ s :: B) s = A.length := by
  unfold pos
  rw [List.takeWhile_append_of_pos (fun a ha => by simp; intro e; exact h (e ▸ ha))]
  simp
theorem split_at {ps : List Nat} {k : Nat} (hk : k < ps.length) : ps = ps.take k ++ ps.getD k 0 :: ps.drop (k + 1) := by
  have e : ps.getD k 0 = ps[k] := by simp [List.getD, List.getElem?_eq_getElem hk]
  rw [e, ← List.drop_eq_getElem_cons hk, List.take_append_drop]
theorem idx_hit {ps : List Nat} {s k : Nat} (hk : k < ps.length) (hno : s ∉ ps.take k) (h : (s == ps.getD k 0) = true) : idx ps s = k := by
  have e : s = ps.getD k 0 := by simpa using h
  have hsplit := split_at hk
  rw [← e] at hsplit
  have hm : s ∈ ps := by rw [hsplit]; simp
  unfold idx
  rw [if_pos hm, hsplit, pos_split hno]
  simp; omega
theorem idx_miss {ps : List Nat} {s : Nat} (h : s ∉ ps) : idx ps s = -1 := by simp [idx, h]
theorem notin_succ {ps : List Nat} {s k : Nat} (hk : k < ps.length) (hno : s ∉ ps.take k) (h : (s == ps.getD k 0) = false) : s ∉ ps.take (k + 1) := by
  have e : ps.getD k 0 = ps[k] := by simp [List.getD, List.getElem?_eq_getElem hk]
  rw [e] at h
  rw [List.take_succ_eq_append_getElem hk]
  intro hm
  rcases List.mem_append.1 hm with hm | hm
  · exact hno hm
  · simp at hm h; exact h hm
theorem ret_i64 {a b : Int} (h : a = b) : Ending.returned (.int .i64 a) = .returned (.int .i64 b) := by rw [h]

set_option maxHeartbeats 1000000 in
set_option maxRecDepth 100000 in
theorem index_pos (g n cap : Nat) (ps : List Nat) (s : Nat) (w : World) (hl : ps.length = n) (hbig : n ≤ 9223372036854775807) (hc : ∀ j, j < n → w.cell? ⟨g, 0 + j, none⟩ = some (sptr (ps.getD j 0)))
    (hs : ∃ c, w.heap[s]? = some (.cells c 54 (0, 0))) (hp : ∀ p ∈ ps, ∃ c, w.heap[p]? = some (.cells c 54 (0, 0))) :
    Calls Yba.prog 19 #[.slice (some ⟨g, 0, none⟩) n cap, .pointer (some ⟨s, 0, none⟩)] w fun e w' => e = .returned (.int .i64 (idx ps s)) ∧ w' = w := by
  have HL := hide hl
  have HC := hide hc
  have HS := hide hs
  have HP := hide hp
  clear hl hc hs hp
  go_enter Yba.func19, Yba.ntmps19
  go_wp2
  go_loop [8] (fun i => ∃ k : Nat, k ≤ n ∧ i = .int .i64 k ∧ Hid (s ∉ ps.take k)) (fun i => n - (intOf i).toNat)
  case atStart => exact ⟨0, Nat.zero_le _, rfl, hide (by simp)⟩
  case round =>
    obtain ⟨k, hk, rfl, hno⟩ := hrel
    by_cases hlt : k < n
    · have hkl : k < ps.length := by rw [HL.out]; exact hlt
      obtain ⟨p, hpe⟩ : ∃ p, p = ps.getD k 0 := ⟨_, rfl⟩
      have hcell : w.cell? ⟨g, k, none⟩ = some (.pointer (some ⟨p, 0, none⟩)) := by have := HC.out k hlt; rw [Nat.zero_add] at this; rw [this, hpe]; rfl
      have heq := run_eq s p w HS.out (HP.out p (by rw [hpe]; simp [List.getD, List.getElem?_eq_getElem hkl]))
      have HPE := hide hpe
      clear hpe
      go_wp2
      · have he : (s == p) = true := by assumption
        go_ret
        exact ⟨ret_i64 (idx_hit hkl hno.out (by rw [← HPE.out]; exact he)).symm, rfl⟩
      · have he : (s == p) = false := by assumption
        go_round
        case rel => exact ⟨k + 1, by omega, by go_num, hide (notin_succ hkl hno.out (by rw [← HPE.out]; exact he))⟩
        case measure => simp [intOf]; omega
    · go_wp2
      go_ret
      obtain rfl : k = n := by omega
      exact ⟨ret_i64 (idx_miss (by have := hno.out; rwa [List.take_of_length_le (by rw [HL.out]; exact Nat.le_refl _)] at this)).symm, rfl⟩

theorem index_empty (a : Option Addr) (cap : Nat) (x : Value) (w : World) :
    Calls Yba.prog 19 #[.slice a 0 cap, x] w fun e w' => e = .returned (.int .i64 (-1)) ∧ w' = w := by
  go_enter Yba.func19, Yba.ntmps19
  go_wp2
  refine wp_loop_rounds 1 ?_
  rw [rounds_succ]
  go_wp2
  go_ret
  exact ⟨rfl, rfl⟩

/-! ### The two comparing loops, at equal slices -/
set_option maxHeartbeats 1000000 in
set_option maxRecDepth 100000 in
theorem same_pos (g1 g2 n cap1 cap2 : Nat) (ps : List Nat) (w : World) (hbig : n ≤ 9223372036854775807) (hc1 : ∀ j, j < n → w.cell? ⟨g1, j, none⟩ = some (sptr (ps.getD j 0))) (hc2 : ∀ j, j < n → w.cell? ⟨g2, j, none⟩ = some (sptr (ps.getD j 0))) :
    Calls Yba.prog 11 #[.slice (some ⟨g1, 0, none⟩) n cap1, .slice (some ⟨g2, 0, none⟩) n cap2] w fun e w' => e = .returned (.bool true) ∧ ∃ q, w' = w.drewN q := by
  obtain ⟨i0, hi, hz0, hz1, hz2⟩ := info_parts Yba.info54
  have HC1 := hide hc1
  have HC2 := hide hc2
  clear hc1 hc2
  go_enter Yba.func11, Yba.ntmps11
  go_wp2
  go_loopw [13] (fun i wr => ∃ k : Nat, k ≤ n ∧ i = .int .i64 k ∧ ∃ q, wr = w.drewN q) (fun i _ => n - (intOf i).toNat)
  case atStart => exact ⟨0, Nat.zero_le _, rfl, 0, rfl⟩
  case round =>
    obtain ⟨k, hk, rfl, q, rfl⟩ := hrel
    by_cases hlt : k < n
    · obtain ⟨p, hpe⟩ : ∃ p, p = ps.getD k 0 := ⟨_, rfl⟩
      have c1 : w.cell? ⟨g1, k, none⟩ = some (.pointer (some ⟨p, 0, none⟩)) := by rw [HC1.out k hlt, ← hpe]; rfl
      have c2 : w.cell? ⟨g2, k, none⟩ = some (.pointer (some ⟨p, 0, none⟩)) := by rw [HC2.out k hlt, ← hpe]; rfl
      clear hpe
      have hk1 : (k : Int) < n := by omega
      have hne := fun (wx : World) => Lib.run_neq_ptr_same (P := Yba.prog) wx ⟨p, 0, none⟩ Yba.underlying52 hi
      go_wp2_with fail
      go_quiet (fail)
      go_wp2
      go_roundw
      case rel => exact ⟨k + 1, by omega, by go_num, _, rfl⟩
      case measure => simp [intOf]; omega
    · go_wp2
      go_ret
      exact ⟨rfl, _, rfl⟩

theorem same_empty (a b : Option Addr) (cap1 cap2 : Nat) (w : World) :
    Calls Yba.prog 11 #[.slice a 0 cap1, .slice b 0 cap2] w fun e w' => e = .returned (.bool true) ∧ ∃ q, w' = w.drewN q := by
  go_enter Yba.func11, Yba.ntmps11
  go_wp2
  refine wp_loop_rounds 1 ?_
  rw [rounds_succ]
  go_wp2
  go_ret
  exact ⟨rfl, 0, rfl⟩

set_option maxHeartbeats 1000000 in
set_option maxRecDepth 100000 in
theorem beq_pos (g1 g2 n cap1 cap2 : Nat) (zs : List Int) (w : World) (hbig : n ≤ 9223372036854775807) (hc1 : ∀ j, j < n → w.cell? ⟨g1, j, none⟩ = some (.int .i64 (zs.getD j 0))) (hc2 : ∀ j, j < n → w.cell? ⟨g2, j, none⟩ = some (.int .i64 (zs.getD j 0))) :
    Calls Yba.prog 9 #[.slice (some ⟨g1, 0, none⟩) n cap1, .slice (some ⟨g2, 0, none⟩) n cap2] w fun e w' => e = .returned (.bool true) ∧ ∃ q, w' = w.drewN q := by
  have HC1 := hide hc1
  have HC2 := hide hc2
  clear hc1 hc2
  go_enter Yba.func9, Yba.ntmps9
  go_wp2
  go_loopw [13] (fun i wr => ∃ k : Nat, k ≤ n ∧ i = .int .i64 k ∧ ∃ q, wr = w.drewN q) (fun i _ => n - (intOf i).toNat)
  case atStart => exact ⟨0, Nat.zero_le _, rfl, 0, rfl⟩
  case round =>
    obtain ⟨k, hk, rfl, q, rfl⟩ := hrel
    by_cases hlt : k < n
    · obtain ⟨p, hpe⟩ : ∃ p, p = zs.getD k 0 := ⟨_, rfl⟩
      have c1 : w.cell? ⟨g1, k, none⟩ = some (.int .i64 p) := by rw [HC1.out k hlt, ← hpe]
      have c2 : w.cell? ⟨g2, k, none⟩ = some (.int .i64 p) := by rw [HC2.out k hlt, ← hpe]
      clear hpe
      have hk1 : (k : Int) < n := by omega
      go_wp2_with fail
      go_quiet (fail)
      go_wp2
      go_roundw
      case rel => exact ⟨k + 1, by omega, by go_num, _, rfl⟩
      case measure => simp [intOf]; omega
    · go_wp2
      go_ret
      exact ⟨rfl, _, rfl⟩

theorem beq_empty (a b : Option Addr) (cap1 cap2 : Nat) (w : World) :
    Calls Yba.prog 9 #[.slice a 0 cap1, .slice b 0 cap2] w fun e w' => e = .returned (.bool true) ∧ ∃ q, w' = w.drewN q := by
  go_enter Yba.func9, Yba.ntmps9
  go_wp2
  refine wp_loop_rounds 1 ?_
  rw [rounds_succ]
  go_wp2
  go_ret
  exact ⟨rfl, 0, rfl⟩
end Go.Proofs.Ybulkdszi
