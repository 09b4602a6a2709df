import Derived.Test.YbulkdtakWalks
import Derived.Laws.CopyOwn
import Derived.BigQuiet
import Derived.Deep.QuietTactic
import Derived.WalkLawsBesides
import Derived.Deep.DeepMust
namespace Go.Proofs.Ybulkdtak
open Go.RowKit

theorem hid {p : Prop} (h : p) : Hid p := h
theorem Yba.info9 : (Yba.prog.info? 9).map (fun i => (i.zero, i.size, i.bytes)) = some (some (.string ByteArray.empty), 1, 16) := by kernel_rfl
theorem Yba.size9 : (Yba.prog.info? 9).map (·.size) = some 1 := by kernel_rfl

set_option maxHeartbeats 400000 in
theorem law_big (a : Option Addr) (len cap : Nat) (s : ByteArray) (p : Int) (u : Bool) (w : World) (hbig : len ≤ 9223372036854775807) (h : 1048576 < len) :
    Calls Yba.prog 3 #[.slice a len cap, .string s, .int .u8 p, .bool u] w fun e w' => e = .returned (.bool true) ∧ w' = w := by
  go_enter Yba.func3, Yba.ntmps3
  go_wp2
  go_ret
  exact ⟨rfl, rfl⟩

/-- The strings as cells. -/
def cellsOf (ss : List ByteArray) (len : Nat) : List Value := (ss.take len).map Value.string
theorem cellsOf_length (ss : List ByteArray) (len : Nat) (h : len ≤ ss.length) : (cellsOf ss len).length = len := by simp [cellsOf]; omega
theorem cellsOf_get (ss : List ByteArray) (len j : Nat) (h : len ≤ ss.length) (hj : j < len) : (cellsOf ss len)[j]? = some (.string (ss.getD j ByteArray.empty)) := by
  simp [cellsOf, hj, List.getElem?_eq_getElem (show j < ss.length by omega)]
theorem cellsOf_one (ss : List ByteArray) (len : Nat) : ∀ v ∈ cellsOf ss len, v.oneCell' = true := by
  intro v hv
  simp only [cellsOf, List.mem_map] at hv
  obtain ⟨s, _, rfl⟩ := hv
  rfl
theorem cellsOf_lt (ss : List ByteArray) (len j : Nat) (v : Value) (hv : (cellsOf ss len)[j]? = some v) : j < len := by
  rcases Nat.lt_or_ge j len with h | h
  · exact h
  · rw [List.getElem?_eq_none (by simp [cellsOf]; omega)] at hv; cases hv

/-- What a made slice's block is. -/
theorem made_block {w : World} {base g n : Nat} {xs : List Value} (h : w.ownsRow base 9 1 (.slice (some ⟨g, 0, none⟩) n n) n xs) : ∃ cur : List Value, w.heap[g]? = some (.cells cur.toArray 9 (0, 0)) ∧ cur.length = n := by
  rcases h.2 with ⟨h', _⟩ | ⟨g', cap', cur, h', _, hg, _, _, hs, _⟩
  · simp at h'
  · simp only [Value.slice.injEq, Option.some.injEq, Addr.mk.injEq, and_true, true_and] at h'
    obtain ⟨rfl, rfl⟩ := h'
    exact ⟨cur.toList, by simpa using hg, by simpa using hs⟩
theorem splice_all (cur cs : List Value) (h : cs.length = cur.length) : splice cur 0 cs = cs := by simp [splice, h]

/-- 'copy' onto a row of the call's own, as an equation for the walk. -/
theorem run_copy_spl {P : Program} (w : World) (dT sT ty elem : TypeId) (hu : P.underlying dT = some (.slice elem)) (hsz : (P.info? elem).map (·.size) = some 1)
    (dp sp : Option Addr) (dLen dCap sLen sCap : Nat) (g off : Nat) (cur : List Value) (t : TypeId) (hg : w.heap[g]? = some (.cells cur.toArray t (0, 0))) (cs : List Value) (hn : cs.length = Nat.min sLen dLen)
    (hpos : 0 < cs.length → dp = some ⟨g, off, none⟩ ∧ ∃ ad, sp = some ad ∧ ∀ j v, cs[j]? = some v → w.cell? (ad.add j) = some v)
    (hfit : off + cs.length ≤ cur.length) (h1 : ∀ v ∈ cs, v.oneCell' = true) (B : Nat) (w0 : World) (hb : Below B w0 w) (hBg : B ≤ g) :
    ∃ w', (Builtin.copy_ #[dT, sT] ty #[.slice dp dLen dCap, .slice sp sLen sCap]).run P w = .ok (goInt cs.length) w' ∧ Hid (w'.heap[g]? = some (.cells (splice cur off cs).toArray t (0, 0))) ∧ Below B w0 w' := by
  by_cases h0 : cs.length = 0
  · obtain rfl : cs = [] := List.eq_nil_of_length_eq_zero h0
    exact ⟨w, run_copy_none (P := P) w dT sT ty elem dp sp dLen dCap sLen sCap hu hsz (by simpa using hn.symm), (show _ = _ by simpa [splice] using hg), hb⟩
  · obtain ⟨rfl, ad, rfl, hsrc⟩ := hpos (by omega)
    exact ⟨_, run_copy_row (P := P) w dT sT ty elem g off dLen dCap ad sLen sCap cur.toArray t cs hu hsz hg hn hsrc (by simpa using hfit) h1, (show _ = _ by simpa [splice] using setRow_heap w g _ _ t _ hg), below_setRow hb hBg _⟩

/-- Behind the choice of s, ahead of the copy: the law from there on. -/
theorem law_pos (b off len cap : Nat) (ss : List ByteArray) (s : ByteArray) (p : Int) (u : Bool) (w : World) (hl : len ≤ ss.length) (h0 : 0 < len) (hsm : len ≤ 1048576) (hp : 0 ≤ p) (hp2 : p ≤ 255)
    (hc : ∀ j, j < len → w.cell? ⟨b, off + j, none⟩ = some (.string (ss.getD j ByteArray.empty))) (hb : b < w.heap.size) :
    Calls Yba.prog 3 #[.slice (some ⟨b, off, none⟩) len cap, .string s, .int .u8 p, .bool u] w fun e w' => e = .returned (.bool true) ∧ Below w.heap.size w w' := by
  obtain ⟨i0, hi, hz0, hz1, hz2⟩ := info_parts Yba.info9
  have hpl : 0 ≤ p % (len : Int) ∧ p % (len : Int) < len := ⟨Int.emod_nonneg _ (by omega), Int.emod_lt_of_pos _ (by omega)⟩
  have hpl1 := hpl.1
  have hpl2 := hpl.2
  have hm0 : (p % (len : Int)).toNat < len := by omega
  have hcp := hc _ hm0
  have hbig : ¬ (1048576 : Int) < len := by omega
  cases u
  all_goals
    go_enter Yba.func3, Yba.ntmps3
    go_wp2_with (at_make; refine wpList_make_full _ rfl _ _ 22 rfl w.heap.size 9 i0 (.string ByteArray.empty) 1 Yba.underlying22 hi hz0 hz1 _ _ _ _ len rfl rfl rfl rfl (by rw [hz2]; omega) (by unfold maxLen; omega) (Nat.le_refl _) ?_)
    intro w1 hown hgrow
    obtain ⟨cur, hcur, hcl⟩ := made_block hown
    have hb1 : Below w.heap.size w w1 := (Below.refl _ _).grown hgrow (Nat.le_refl _) (fun k hk => by cases hk)
    clear hown hgrow
    have hcells1 : ∀ j, j < len → w1.cell? ⟨b, off + j, none⟩ = some (.string (ss.getD j ByteArray.empty)) := fun j hj => (hb1.cell (by exact hb)).trans (hc j hj)
    have k1 : (cellsOf ss len).length = Nat.min len len := by rw [cellsOf_length ss len hl]; exact (Nat.min_self len).symm
    have k2 : ∀ j v, (cellsOf ss len)[j]? = some v → w1.cell? ((⟨b, off, none⟩ : Addr).add j) = some v := fun j v hv => by
      have hj := cellsOf_lt ss len j v hv
      rw [cellsOf_get ss len j hl hj] at hv
      cases hv
      rw [Addr.add_lit]
      exact hcells1 j hj
    have k3 : 0 + (cellsOf ss len).length ≤ cur.length := by rw [cellsOf_length ss len hl]; omega
    obtain ⟨w2, hrun, HB, hb2⟩ := run_copy_spl (P := Yba.prog) w1 22 22 3 9 Yba.underlying22 Yba.size9 (some ⟨w.heap.size, 0, none⟩) (some ⟨b, off, none⟩) len len len cap w.heap.size 0 cur 9 hcur (cellsOf ss len) k1 (fun _ => ⟨rfl, _, rfl, k2⟩) k3 (cellsOf_one ss len) w.heap.size w hb1 (Nat.le_refl _)
    have hblk : w2.heap[w.heap.size]? = some (.cells (cellsOf ss len).toArray 9 (0, 0)) := by rw [HB.out, splice_all _ _ (by rw [cellsOf_length ss len hl, hcl])]
    clear HB hcur hcl hb1 hcells1 k1 k2 k3
    have hcs : ∀ j, j < len → w2.cell? ⟨b, off + j, none⟩ = some (.string (ss.getD j ByteArray.empty)) := fun j hj => (hb2.cell (by exact hb)).trans (hc j hj)
    have hct : ∀ j, j < len → w2.cell? ⟨w.heap.size, 0 + j, none⟩ = some (.string ((ss.take len).getD j ByteArray.empty)) := fun j hj => by
      rw [Nat.zero_add]
      have h := cellsOf_get ss len j hl hj
      have e : (ss.take len).getD j ByteArray.empty = ss.getD j ByteArray.empty := by simp [List.getD, hj]
      rw [e, ← h]
      simp [World.cell?, hblk]
    clear hc hblk
    have HC := hid hcs
    have HT := hid hct
    clear hcs hct
    clear hcp
    go_wp2_with fail
    clear hrun
    refine (contains_pos b off len cap ss _ w2 hl (by omega) HC.out).mono ?_
    rintro e w' ⟨rfl, rfl⟩
    go_wp2_with fail
    refine (model_pos w.heap.size 0 len len (ss.take len) _ w' (by simp; omega) (by omega) HT.out).mono ?_
    rintro e w' ⟨rfl, rfl⟩
    have heq := fun (wx : World) (ao : Option Addr) (n c : Nat) => Lib.run_eql_slice_nil (P := Yba.prog) wx 22 9 ao n c 0 0 Yba.underlying22
    go_wp2
    clear heq
    have HB := hid hb2
    clear hb2
    go_loopw [11] (fun i wr => ∃ k : Nat, k ≤ len ∧ i = .int .i64 k ∧ ∃ n, wr = w'.drewN n) (fun i _ => len - (intOf i).toNat)
    case atStart => exact ⟨0, Nat.zero_le _, rfl, 0, rfl⟩
    case round =>
      obtain ⟨k, hk, rfl, n, rfl⟩ := hrel
      by_cases hlt : k < len
      · have c1 := HC.out k hlt
        have c2 := HT.out k hlt
        have e2 : (ss.take len).getD k ByteArray.empty = ss.getD k ByteArray.empty := by simp [List.getD, hlt]
        rw [Nat.zero_add, e2] at c2
        clear e2
        have hk1 : (k : Int) < len := by omega
        go_wp2_with fail
        go_quiet (fail)
        go_wp2
        go_roundw
        case rel => exact ⟨k + 1, by omega, by go_num, _, rfl⟩
        case measure => simp [intOf]; omega
      · go_wp2
        go_ret
        exact ⟨rfl, below_drewN HB.out n⟩

/-- A list of no element that is not nil. -/
theorem law_empty (x : Addr) (cap : Nat) (s : ByteArray) (p : Int) (u : Bool) (w : World) :
    Calls Yba.prog 3 #[.slice (some x) 0 cap, .string s, .int .u8 p, .bool u] w fun e w' => e = .returned (.bool true) ∧ Below w.heap.size w w' := by
  obtain ⟨i0, hi, hz0, hz1, hz2⟩ := info_parts Yba.info9
  have heq := fun (wx : World) (ao : Option Addr) (n c : Nat) => Lib.run_eql_slice_nil (P := Yba.prog) wx 22 9 ao n c 0 0 Yba.underlying22
  have hcpy := fun (wx : World) (dp sp : Option Addr) (dCap sCap : Nat) => run_copy_none (P := Yba.prog) wx 22 22 3 9 dp sp 0 dCap 0 sCap Yba.underlying22 Yba.size9 rfl
  cases u
  all_goals
    go_enter Yba.func3, Yba.ntmps3
    go_wp2_with (at_make; refine wpList_make_full _ rfl _ _ 22 rfl w.heap.size 9 i0 (.string ByteArray.empty) 1 Yba.underlying22 hi hz0 hz1 _ _ _ _ 0 rfl rfl rfl rfl (by omega) (by unfold maxLen; omega) (Nat.le_refl _) ?_)
    intro w1 hown hgrow
    have hb1 : Below w.heap.size w w1 := (Below.refl _ _).grown hgrow (Nat.le_refl _) (fun k hk => by cases hk)
    clear hown hgrow
    have HB := hid hb1
    clear hb1
    go_wp2_with fail
    refine (contains_empty _ _ _ _).mono ?_
    rintro e w' ⟨rfl, rfl⟩
    go_wp2_with fail
    refine (model_empty _ _ _ _).mono ?_
    rintro e w' ⟨rfl, rfl⟩
    go_wp2
    refine wp_loop_rounds 1 ?_
    rw [rounds_succ]
    go_wp2
    go_ret
    exact ⟨rfl, HB.out⟩

/-- A nil list. -/
theorem law_nil (s : ByteArray) (p : Int) (u : Bool) (w : World) :
    Calls Yba.prog 3 #[.slice none 0 0, .string s, .int .u8 p, .bool u] w fun e w' => e = .returned (.bool true) ∧ Below w.heap.size w w' := by
  have heq := fun (wx : World) (ao : Option Addr) (n c : Nat) => Lib.run_eql_slice_nil (P := Yba.prog) wx 22 9 ao n c 0 0 Yba.underlying22
  cases u
  all_goals
    go_enter Yba.func3, Yba.ntmps3
    go_wp2_with fail
    refine (contains_empty _ _ _ _).mono ?_
    rintro e w' ⟨rfl, rfl⟩
    go_wp2_with fail
    refine (model_empty _ _ _ _).mono ?_
    rintro e w' ⟨rfl, rfl⟩
    go_wp2
    refine wp_loop_rounds 1 ?_
    rw [rounds_succ]
    go_wp2
    go_ret
    exact ⟨rfl, Below.refl _ _⟩
end Go.Proofs.Ybulkdtak
