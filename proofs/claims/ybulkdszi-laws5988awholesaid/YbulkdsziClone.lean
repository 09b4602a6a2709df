import Derived.Test.YbulkdsziPlain
import Derived.WalkLawsBesides
import Derived.Deep.DeepFit
import Derived.BigRegion
namespace Go.Proofs.Ybulkdszi
open Go.RowKit

/-- What is kept through the third loop. -/
def Held (S : Nat → ByteArray) (w wr : World) : Prop :=
  wr.heap[w.heap.size]? = some (.cells (strs15 S) 27 (0, 0)) ∧ wr.heap[w.heap.size + 1]? = some (.cells zeros15 27 (0, 0)) ∧ Below w.heap.size w wr

theorem rest_tail' (S : Nat → ByteArray) (k : Nat) (h : k < 15) : (rest S k).extract (S k).size ((S k).size + (rest S (k + 1)).size) = rest S (k + 1) := by
  rw [← rest_size S k h]; exact rest_tail S k h

theorem held_step {S : Nat → ByteArray} {w wr : World} {k : Nat} (hk : k < 15) (h : Held S w wr) : Held S w ((wr.setCell ⟨w.heap.size, k, none⟩ (.string ((rest S k).extract 0 (S k).size))).drew) := by
  obtain ⟨h0, h1, h2⟩ := h
  rw [rest_head S k hk]
  refine ⟨?_, ?_, (h2.setCell (p := ⟨w.heap.size, k, none⟩) (Nat.le_refl _) _).drew⟩
  · show (wr.setCell _ _).heap[w.heap.size]? = _
    rw [heap_setCell_same wr w.heap.size k (strs15 S) 27 _ h0]
    congr 1
    have e := strs15_at S k hk
    have hl : k < (strs15 S).size := by simpa [strs15] using hk
    rw [Array.getElem?_eq_getElem hl, Option.some.injEq] at e
    rw [← e, Array.setIfInBounds_def, dif_pos hl, Array.set_getElem_self]
  · show (wr.setCell _ _).heap[w.heap.size + 1]? = _
    rw [Below.heap_setCell _ _ _ _ (by simp)]
    exact h1

set_option maxHeartbeats 4000000 in
set_option maxRecDepth 100000 in
theorem clone_any (S : Nat → ByteArray) (w : World) (hS : ∀ j, (S j).size ≤ 1048576) :
    Calls Yba.prog 5 #[.agg (strs15 S)] w fun e w' => e = .returned (.agg (strs15 S)) ∧ Below w.heap.size w w' := by
  have HF := fields_any
  have HP := index_ptr w.heap.size
  unfold ptrs at *
  unfold strs15
  go_enter Yba.func5, Yba.ntmps5
  go_wp2_with fail
  refine (HF _ _).mono ?_
  rintro e w' ⟨rfl, rfl⟩
  clear HF
  have HPH := hid HP
  clear HP
  go_wp2_with fail
  change Code.wp _ _ _ _ (W1 S w)
  obtain ⟨hb0, hb1, hb3, hsz, hbel⟩ := W1_facts S w
  generalize W1 S w = W at hb0 hb1 hb3 hsz hbel ⊢
  have Hb0 := hid hb0
  have Hb1 := hid hb1
  have Hb3 := hid hb3
  have Hbel := hid hbel
  have Hsz := hid hsz
  have HSS := hid hS
  clear hb0 hb1 hb3 hbel hsz hS
  go_loop [4, 15] (fun n i => ∃ k : Nat, k ≤ 15 ∧ i = .int .i64 k ∧ n = .int .i64 (offs S k)) (fun _ i => 15 - (intOf i).toNat)
  case atStart => exact ⟨0, Nat.zero_le _, rfl, rfl⟩
  case round =>
    obtain ⟨k, hk, rfl, rfl⟩ := hrel
    have ho := offs_le S HSS.out k
    have hs := HSS.out k
    by_cases hlt : k < 15
    · have hix := HPH.out k hlt
      have hce := cell15 Hb0.out k hlt
      go_wp2
      go_round
      case rel => exact ⟨k + 1, by omega, by go_num, rfl⟩
      case measure => simp [intOf]; omega
    · obtain rfl : k = 15 := by omega
      go_wp2_with fail
      refine (Yba.Builder_Grow_fresh W.heap.size W.heap.size (offs S 15) _ (Nat.le_refl _) (heap_alloc_new W _) (by simp) (by omega)).mono ?_
      rintro e w2 ⟨rfl, hbu, hb2⟩
      have Hb2 : Hid (Below W.heap.size W w2) := hid (((Below.refl _ _).alloc (Nat.le_refl _) _).trans hb2)
      have Hbu : Hid (Lib.IsBuilder 63 5 W.heap.size W.heap.size (Lib.byteCells (cat S 0)) w2) := hid (Or.inr hbu)
      clear hbu hb2
      have h3 : ∀ j, w2.cell? ⟨w.heap.size + 1 + 1 + 1, j, none⟩ = (ptrs w.heap.size)[j]? := fun j => by
        rw [Hb2.out.cell (by have := Hsz.out; simp; omega)]
        exact Lib.cell_of_heap Hb3.out j
      unfold ptrs at h3
      go_wp2_with fail
      clear h3
      go_loopw [28] (fun i wr => ∃ k : Nat, k ≤ 15 ∧ i = .int .i64 k ∧ Hid (Lib.IsBuilder 63 5 W.heap.size W.heap.size (Lib.byteCells (cat S k)) wr) ∧ Hid (Below W.heap.size W wr)) (fun i _ => 15 - (intOf i).toNat)
      case atStart => exact ⟨0, Nat.zero_le _, rfl, Hbu, Hb2⟩
      case round =>
        clear Hbu Hb2
        obtain ⟨k, hk, rfl, Hbu, Hbw⟩ := hrel
        by_cases hlt : k < 15
        · have hix := HPH.out k hlt
          have hce : wr.cell? ⟨w.heap.size, k, none⟩ = some (.string (S k)) := (Hbw.out.cell (by have := Hsz.out; simp; omega)).trans (cell15 Hb0.out k hlt)
          go_wp2_with fail
          refine (Yba.Builder_WriteString W.heap.size W.heap.size (Lib.byteCells (cat S k)) (S k) wr Hbu.out (by rw [Lib.byteCells_length, cat_length]; have := offs_le S HSS.out k; have := HSS.out k; omega) Hbw.out.size).mono ?_
          rintro e w3 ⟨rfl, hbu3, hb3⟩
          have HR : Hid (Lib.IsBuilder 63 5 W.heap.size W.heap.size (Lib.byteCells (cat S (k + 1))) w3) ∧ Hid (Below W.heap.size W w3) := ⟨hid (Or.inr (by rw [← cells_succ]; exact hbu3)), hid (Hbw.out.trans hb3)⟩
          obtain ⟨HR1, HR2⟩ := HR
          clear hbu3 hb3 Hbu Hbw hce hix
          go_wp2
          go_roundw
          case rel => exact ⟨k + 1, by omega, by go_num, HR1, HR2⟩
          case measure => simp [intOf]; omega
        · obtain rfl : k = 15 := by omega
          go_wp2_with fail
          refine (Yba.Builder_String_any W.heap.size W.heap.size (cat S 15) wr Hbu.out Hbw.out.size).mono ?_
          rintro e w4 ⟨rfl, hb4⟩
          have Hb4 := hid (Hbw.out.trans hb4)
          clear hb4 Hbu Hbw
          have h3 : ∀ j, w4.cell? ⟨w.heap.size + 1 + 1 + 1, j, none⟩ = (ptrs w.heap.size)[j]? := fun j => by
            rw [Hb4.out.cell (by have := Hsz.out; simp; omega)]
            exact Lib.cell_of_heap Hb3.out j
          unfold ptrs at h3
          go_wp2_with fail
          clear h3
          go_loopw [10, 38] (fun a i wr => ∃ k : Nat, k ≤ 15 ∧ i = .int .i64 k ∧ a = .string (rest S k) ∧ Hid (Held S w wr)) (fun _ i _ => 15 - (intOf i).toNat)
          case atStart => exact ⟨0, Nat.zero_le _, rfl, rfl, hid ⟨(Hb4.out.block _ (by have := Hsz.out; omega)).trans Hb0.out, (Hb4.out.block _ (by have := Hsz.out; omega)).trans Hb1.out, Hbel.out.trans (Hb4.out.mono (by have := Hsz.out; omega))⟩⟩
          case round =>
            clear Hb4
            obtain ⟨k, hk, rfl, rfl, HH⟩ := hrel
            by_cases hlt : k < 15
            · have hix := HPH.out k hlt
              have hce : wr.cell? ⟨w.heap.size, k, none⟩ = some (.string (S k)) := cell15 HH.out.1 k hlt
              have hfr : wr.frozen? ⟨w.heap.size, k, none⟩ = false := Lib.frozen_of_heap HH.out.1 k
              have hr := rest_size S k hlt
              go_wp2_with fail
              have HK := held_step hlt HH.out
              have HKH := hid HK
              clear HK
              go_region
              clear hce hfr hix HH
              have HT := hid (rest_tail' S k hlt)
              clear hr
              go_wp2
              go_roundw
              case rel => exact ⟨k + 1, by omega, by go_num, congrArg Value.string HT.out, HKH⟩
              case measure => simp [intOf]; omega
            · obtain rfl : k = 15 := by omega
              have h0 : ∀ j, wr.cell? ⟨w.heap.size, j, none⟩ = (strs15 S)[j]? := fun j => Lib.cell_of_heap HH.out.1 j
              have h1 : ∀ j, wr.cell? ⟨w.heap.size + 1, j, none⟩ = zeros15[j]? := fun j => Lib.cell_of_heap HH.out.2.1 j
              have f1 : ∀ j, wr.frozen? ⟨w.heap.size + 1, j, none⟩ = false := fun j => Lib.frozen_of_heap HH.out.2.1 j
              unfold zeros15 at h1
              unfold strs15 at h0 h1
              go_wp2_with fail
              refine bodyPost_ret (v := .agg (strs15 S)) (by simp [results, Yba.results5, strs15, go_sem, h1]) rfl ⟨rfl, ?_⟩
              repeat (refine Below.setCell ?_ (by simp) _)
              exact HH.out.2.2
end Go.Proofs.Ybulkdszi
