import Derived.Test.YbulkdtayPdq
import Derived.Below
namespace Go.Proofs.Ybulkdtay
open Go.RowKit

/-- The sorted list. -/
def srt (zs : List Int) : List Int := zs.mergeSort (fun x y => !Sort.ltInt y x)
theorem srt_unique (d d' : Array Int) (hp : Sort.PermIn 0 d.size d d') (hs : Sort.SortedIn Sort.ltInt 0 d.size d') : d'.toList = srt d.toList :=
  Sort.sorted_unique_holds swo (fun x y h1 h2 => by simp only [Sort.ltInt, decide_eq_false_iff_not] at h1 h2; omega) d d' hp hs

set_option maxHeartbeats 2000000 in
set_option maxRecDepth 100000 in
/-- insertionSortOrdered at nothing. -/
theorem ins_nil (w : World) : Calls Yba.prog 18 #[.slice none 0 0, .int .i64 0, .int .i64 0] w fun e w' => e = .returned (.tuple #[]) ∧ w' = w := by
  go_enter Yba.func18, Yba.ntmps18
  go_wp2_with fail
  refine wp_loop_rounds 1 ?_
  rw [rounds_succ]
  go_wp2_with fail
  go_end0
  exact ⟨rfl, rfl⟩
set_option maxHeartbeats 2000000 in
set_option maxRecDepth 100000 in
/-- pdqsortOrdered at nothing. -/
theorem pdq_nil (L : Int) (w : World) : Calls Yba.prog 16 #[.slice none 0 0, .int .i64 0, .int .i64 0, .int .i64 L] w fun e w' => e = .returned (.tuple #[]) ∧ w' = w := by
  go_enter Yba.func16, Yba.ntmps16
  go_wp2_with fail
  refine wp_loop_rounds 1 ?_
  rw [rounds_succ]
  go_wp2_with (go_at_call 18; refine (ins_nil _).mono ?_; rintro e w1 ⟨rfl, rfl⟩)
  exact bodyPost_ret (results_none rfl _ _ _) rfl ⟨rfl, rfl⟩
set_option maxHeartbeats 2000000 in
set_option maxRecDepth 100000 in
/-- slices.Sort at nothing. -/
theorem sort_nil (w : World) : Calls Yba.prog 13 #[.slice none 0 0] w fun e w' => e = .returned (.tuple #[]) ∧ w' = w := by
  have HL := hide (Any.bits_Len Yba.lays125 0 w (by omega) (by omega))
  go_enter Yba.func13, Yba.ntmps13
  go_wp2_with fail
  refine HL.out.mono ?_
  rintro e w1 ⟨rfl, rfl⟩
  go_wp2_with fail
  refine (pdq_nil _ _).mono ?_
  rintro e w1 ⟨rfl, rfl⟩
  go_wp2_with fail
  go_end0
  exact ⟨rfl, rfl⟩
set_option maxHeartbeats 2000000 in
set_option maxRecDepth 100000 in
/-- slices.Sort. -/
theorem sort_any (base g n cap : Nat) (d : Array Int) (w0 w : World) (h : Srt base g w0 w n cap d) (h0 : 0 < n) : Calls Yba.prog 13 #[.slice (some ⟨g, 0, none⟩) n cap] w fun e w' => e = .returned (.tuple #[]) ∧ ∃ d', Srt base g w0 w' n cap d' ∧ d'.toList = srt d.toList := by
  have hsm := h.small
  have HL := hide (Any.bits_Len Yba.lays125 (n : Int) w (by omega) (by omega))
  have hb := (bitLen_small n h0 hsm).1
  have HS := hide h
  clear h
  go_enter Yba.func13, Yba.ntmps13
  go_wp2_with fail
  refine HL.out.mono ?_
  rintro e w1 ⟨rfl, rfl⟩
  have hc : (n : Int).toNat = n := by omega
  rw [hc]
  go_wp2_with fail
  refine (pdq_any n base g 0 n (Lib.bitLen n) n cap d w0 _ (by omega) HS.out (by omega) (by omega) (by omega) (.inl rfl)).mono ?_
  rintro e w1 ⟨rfl, d', h1, hp, hs⟩
  go_wp2_with fail
  go_end0
  have hz := HS.out.sz
  exact ⟨rfl, d', h1, srt_unique d d' (by rw [hz]; exact hp) (by rw [hz]; exact hs)⟩
end Go.Proofs.Ybulkdtay
