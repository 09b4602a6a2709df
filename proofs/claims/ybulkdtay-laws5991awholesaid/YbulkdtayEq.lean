import Derived.Test.YbulkdtayClone
namespace Go.Proofs.Ybulkdtay
open Go.RowKit

set_option maxRecDepth 100000 in
set_option maxHeartbeats 1000000 in
theorem eq8_zero (a1 a2 : Option Addr) (c1 c2 : Nat) (w : World) : Calls Yba.prog 8 #[.slice a1 0 c1, .slice a2 0 c2] w fun e w' => e = .returned (.bool true) ∧ ∃ m, w' = w.drewN m := by
  go_enter Yba.func8, Yba.ntmps8
  go_wp2_with fail
  refine wp_loop_rounds 1 ?_
  rw [rounds_succ]
  go_wp2_with fail
  go_ret
  exact ⟨rfl, 0, rfl⟩
set_option maxRecDepth 100000 in
set_option maxHeartbeats 1000000 in
theorem eq8_pos (b1 o1 b2 o2 c1 c2 len : Nat) (zs : List Int) (w : World) (hlen : len ≤ 1048576) (h1 : ∀ j, j < len → w.cell? ⟨b1, o1 + j, none⟩ = some (.int .i32 (zs[j]?.getD 0))) (h2 : ∀ j, j < len → w.cell? ⟨b2, o2 + j, none⟩ = some (.int .i32 (zs[j]?.getD 0))) :
    Calls Yba.prog 8 #[.slice (some ⟨b1, o1, none⟩) len c1, .slice (some ⟨b2, o2, none⟩) len c2] w fun e w' => e = .returned (.bool true) ∧ ∃ m, w' = w.drewN m := by
  have H1 := hide h1
  have H2 := hide h2
  clear h1 h2
  go_enter Yba.func8, Yba.ntmps8
  go_wp2_with fail
  go_loopw [13] (fun v13 wr => ∃ i m : Nat, v13 = .int .i64 i ∧ i ≤ len ∧ wr = w.drewN m) (fun v13 _ => len - (intOf v13).toNat)
  case atStart => exact ⟨0, 0, rfl, Nat.zero_le _, rfl⟩
  case round =>
    obtain ⟨i, m, rfl, hi, rfl⟩ := hrel
    by_cases hlt : i < len
    · obtain ⟨z, hz⟩ : ∃ z, z = zs[i]?.getD 0 := ⟨_, rfl⟩
      have e1 : (w.drewN m).cell? ⟨b1, o1 + i, none⟩ = some (.int .i32 z) := by rw [hz]; exact H1.out i hlt
      have e2 : (w.drewN m).cell? ⟨b2, o2 + i, none⟩ = some (.int .i32 z) := by rw [hz]; exact H2.out i hlt
      clear hz
      have HM : Hid (∃ q, w.drewN m = w.drewN q) := hide ⟨m, rfl⟩
      generalize w.drewN m = wm at HM e1 e2 ⊢
      go_wp2_with fail
      go_quiet (fail)
      go_wp2_with fail
      obtain ⟨q, hq⟩ := HM.out
      subst hq
      refine ⟨⟨i + 1, _, by simp, by omega, World.drewN_drewN _ _ _⟩, by simp [intOf]; omega⟩
    · obtain rfl : i = len := by omega
      go_wp2_with fail
      go_ret
      exact ⟨rfl, m, rfl⟩
/-- slices.Equal, of equal rows. -/
theorem eq8_any (a1 a2 : Option Addr) (c1 c2 len n1 n2 : Nat) (zs : List Int) (w : World) (hlen : len ≤ 1048576) (h1 : Rd .i32 n1 w a1 len c1 zs) (h2 : Rd .i32 n2 w a2 len c2 zs) :
    Calls Yba.prog 8 #[.slice a1 len c1, .slice a2 len c2] w fun e w' => e = .returned (.bool true) ∧ ∃ m, w' = w.drewN m := by
  rcases h1.at' with rfl | ⟨b1, o1, rfl, _, hc1⟩
  · exact eq8_zero _ _ _ _ _
  · rcases h2.at' with rfl | ⟨b2, o2, rfl, _, hc2⟩
    · exact eq8_zero _ _ _ _ _
    · exact eq8_pos b1 o1 b2 o2 c1 c2 len zs w hlen hc1 hc2

set_option maxRecDepth 100000 in
set_option maxHeartbeats 1000000 in
theorem eq9_zero (a1 a2 : Option Addr) (c1 c2 : Nat) (w : World) : Calls Yba.prog 9 #[.slice a1 0 c1, .slice a2 0 c2] w fun e w' => e = .returned (.bool true) ∧ ∃ m, w' = w.drewN m := by
  go_enter Yba.func9, Yba.ntmps9
  go_wp2_with fail
  refine wp_loop_rounds 1 ?_
  rw [rounds_succ]
  go_wp2_with fail
  go_ret
  exact ⟨rfl, 0, rfl⟩
set_option maxRecDepth 100000 in
set_option maxHeartbeats 1000000 in
theorem eq9_pos (b1 o1 b2 o2 c1 c2 len : Nat) (zs : List Int) (w : World) (hlen : len ≤ 1048576) (h1 : ∀ j, j < len → w.cell? ⟨b1, o1 + j, none⟩ = some (.int .u32 (zs[j]?.getD 0))) (h2 : ∀ j, j < len → w.cell? ⟨b2, o2 + j, none⟩ = some (.int .u32 (zs[j]?.getD 0))) :
    Calls Yba.prog 9 #[.slice (some ⟨b1, o1, none⟩) len c1, .slice (some ⟨b2, o2, none⟩) len c2] w fun e w' => e = .returned (.bool true) ∧ ∃ m, w' = w.drewN m := by
  have H1 := hide h1
  have H2 := hide h2
  clear h1 h2
  go_enter Yba.func9, Yba.ntmps9
  go_wp2_with fail
  go_loopw [13] (fun v13 wr => ∃ i m : Nat, v13 = .int .i64 i ∧ i ≤ len ∧ wr = w.drewN m) (fun v13 _ => len - (intOf v13).toNat)
  case atStart => exact ⟨0, 0, rfl, Nat.zero_le _, rfl⟩
  case round =>
    obtain ⟨i, m, rfl, hi, rfl⟩ := hrel
    by_cases hlt : i < len
    · obtain ⟨z, hz⟩ : ∃ z, z = zs[i]?.getD 0 := ⟨_, rfl⟩
      have e1 : (w.drewN m).cell? ⟨b1, o1 + i, none⟩ = some (.int .u32 z) := by rw [hz]; exact H1.out i hlt
      have e2 : (w.drewN m).cell? ⟨b2, o2 + i, none⟩ = some (.int .u32 z) := by rw [hz]; exact H2.out i hlt
      clear hz
      have HM : Hid (∃ q, w.drewN m = w.drewN q) := hide ⟨m, rfl⟩
      generalize w.drewN m = wm at HM e1 e2 ⊢
      go_wp2_with fail
      go_quiet (fail)
      go_wp2_with fail
      obtain ⟨q, hq⟩ := HM.out
      subst hq
      refine ⟨⟨i + 1, _, by simp, by omega, World.drewN_drewN _ _ _⟩, by simp [intOf]; omega⟩
    · obtain rfl : i = len := by omega
      go_wp2_with fail
      go_ret
      exact ⟨rfl, m, rfl⟩
/-- slices.Equal, of equal rows. -/
theorem eq9_any (a1 a2 : Option Addr) (c1 c2 len n1 n2 : Nat) (zs : List Int) (w : World) (hlen : len ≤ 1048576) (h1 : Rd .u32 n1 w a1 len c1 zs) (h2 : Rd .u32 n2 w a2 len c2 zs) :
    Calls Yba.prog 9 #[.slice a1 len c1, .slice a2 len c2] w fun e w' => e = .returned (.bool true) ∧ ∃ m, w' = w.drewN m := by
  rcases h1.at' with rfl | ⟨b1, o1, rfl, _, hc1⟩
  · exact eq9_zero _ _ _ _ _
  · rcases h2.at' with rfl | ⟨b2, o2, rfl, _, hc2⟩
    · exact eq9_zero _ _ _ _ _
    · exact eq9_pos b1 o1 b2 o2 c1 c2 len zs w hlen hc1 hc2
end Go.Proofs.Ybulkdtay
