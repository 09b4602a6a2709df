import Derived.Test.YbulkdtayFmtBits
import Derived.BigQuiet
namespace Go.Proofs.YbulkdtayFmt
open Go.RowKit

theorem bint_bad (a : Option Addr) (len cap : Nat) (w : World) (hm : len ≤ 9223372036854775807) (h : len = 0 ∨ 8 < len) :
    Calls Ybaf.prog 9 #[.slice a len cap] w fun e w' => e = .returned (.tuple #[.int .i64 0, .bool false]) ∧ w' = w := by
  rcases h with rfl | h
  · go_enter Ybaf.func9, Ybaf.ntmps9
    go_wp2
    go_ret2
    exact ⟨rfl, rfl⟩
  · have h0 : ¬ len = 0 := by omega
    go_enter Ybaf.func9, Ybaf.ntmps9
    go_wp2
    go_ret2
    exact ⟨rfl, rfl⟩

set_option maxHeartbeats 2000000 in
theorem bint_pos (g off len cap : Nat) (b : Nat → Nat) (w : World) (hb : ∀ j, b j < 256) (h1 : 0 < len) (h8 : len ≤ 8) (hcell : ∀ j, j < len → w.cell? ⟨g, off + j, none⟩ = some (.int .u8 (b j : Nat))) :
    Calls Ybaf.prog 9 #[.slice (some ⟨g, off, none⟩) len cap] w fun e w' => e = .returned (.tuple #[.int .i64 ((intAns b len (-2147483648) 2147483647).getD 0), .bool (intAns b len (-2147483648) 2147483647).isSome]) ∧ w' = w := by
  have h0 : ((len : Int) == 0) = false := by rw [beq_eq_false_iff_ne]; omega
  have h8' : decide ((8 : Int) < (len : Int)) = false := by simp; omega
  go_enter Ybaf.func9, Ybaf.ntmps9
  go_wp2
  go_loop [4, 20] (fun u i => ∃ j : Nat, j ≤ len ∧ i = .int .i64 j ∧ u = .int .u64 (uv b j : Nat)) (fun _ i => len - (intOf i).toNat)
  case atStart => exact ⟨0, Nat.zero_le _, rfl, rfl⟩
  case round =>
    obtain ⟨j, hj, rfl, rfl⟩ := hrel
    by_cases hlt : j < len
    · have hc := hcell j hlt
      have hu := uv_lt hb j
      have hp : 256 ^ j ≤ 256 ^ 7 := Nat.pow_le_pow_right (by decide) (by omega)
      have hor := u64_shl8 (uv b j) (b j) (by omega) (hb j)
      go_wp2
      exact ⟨⟨j + 1, by omega, by simp, by simp [uv]⟩, by simp [intOf]; omega⟩
    · obtain rfl : j = len := by omega
      have hsh : wrap64 (IntKind.u64.wrap ((uv b j : Int) * 2 ^ (64 - 8 * j))) / 2 ^ (64 - 8 * j) = sv b j := by
        have := sv_shifts hb h1 h8
        rw [Int.fdiv_eq_ediv_of_nonneg _ (Int.le_of_lt (Int.pow_pos (by decide)))] at this
        rw [i64_wrap] at this
        exact this
      go_wp2
      have hlow := sv_bound hb (j - 1)
      rw [show j - 1 + 1 = j by omega] at hlow
      have hp : 256 ^ (j - 1) ≤ 256 ^ 7 := Nat.pow_le_pow_right (by decide) (by omega)
      clear hsh
      generalize hn : sv b j = n at *
      go_loop [9] (fun i => ∃ k : Nat, 1 ≤ k ∧ k ≤ 8 ∧ i = .int .i64 k ∧ ∀ l, 1 ≤ l → l < k → ¬ inRange l n) (fun i => 8 - (intOf i).toNat)
      case atStart => exact ⟨1, by omega, by omega, rfl, fun l h h' => by omega⟩
      case round =>
        obtain ⟨k, hk1, hk8, rfl, hkl⟩ := hrel
        have hks : k = 1 ∨ k = 2 ∨ k = 3 ∨ k = 4 ∨ k = 5 ∨ k = 6 ∨ k = 7 ∨ k = 8 := by omega
        rcases hks with rfl | rfl | rfl | rfl | rfl | rfl | rfl | rfl
        · by_cases hin : inRange 1 n
          · have hiff := kmin_iff hb h1 h8 hk1 hk8 (by rw [hn]; exact hkl) (.inr (by rw [hn]; exact hin))
            have hA : (-128 : Int) ≤ n ∧ n < 128 := hin
            obtain ⟨hA, hB⟩ := hA
            by_cases hkj : 1 = j
            · subst hkj
              have hR : ¬ intBad b 1 := by
                rintro (h | h | h)
                · omega
                · omega
                · exact hiff.1 rfl h
              by_cases h32 : n < -2147483648
              · have hans : intAns b 1 (-2147483648) 2147483647 = none := by unfold intAns; rw [if_neg hR, if_pos (by rw [hn]; exact .inl h32)]
                go_wp2
                go_ret2
                exact ⟨rfl, rfl⟩
              · by_cases h33 : 2147483647 < n
                · have hans : intAns b 1 (-2147483648) 2147483647 = none := by unfold intAns; rw [if_neg hR, if_pos (by rw [hn]; exact .inr h33)]
                  go_wp2
                  go_ret2
                  exact ⟨rfl, rfl⟩
                · have hans : intAns b 1 (-2147483648) 2147483647 = some n := by unfold intAns; rw [if_neg hR, if_neg (by rw [hn]; omega), hn]
                  go_wp2
                  go_ret2
                  exact ⟨rfl, rfl⟩
            · have hR : intBad b j := .inr (.inr (Classical.not_not.1 (fun h => hkj (hiff.2 h))))
              have hans : intAns b j (-2147483648) 2147483647 = none := by unfold intAns; rw [if_pos hR]
              have hne : ((1 : Int) != (j : Int)) = true := by simp; omega
              go_wp2
              go_ret2
              exact ⟨rfl, rfl⟩
          · have hA : ¬ ((-128 : Int) ≤ n ∧ n < 128) := hin
            by_cases hB : n < -128
            · have hC : ¬ ((-128 : Int) ≤ n) := by omega
              go_wp2
              refine ⟨⟨2, by omega, by omega, rfl, fun l hl hl' => ?_⟩, by simp [intOf]⟩
              rcases Nat.lt_or_ge l 1 with h | h
              · exact hkl l hl h
              · obtain rfl : l = 1 := by omega
                exact hin
            · have hC : (-128 : Int) ≤ n := by omega
              have hD : ¬ (n < 128) := by omega
              go_wp2
              refine ⟨⟨2, by omega, by omega, rfl, fun l hl hl' => ?_⟩, by simp [intOf]⟩
              rcases Nat.lt_or_ge l 1 with h | h
              · exact hkl l hl h
              · obtain rfl : l = 1 := by omega
                exact hin
        · by_cases hin : inRange 2 n
          · have hiff := kmin_iff hb h1 h8 hk1 hk8 (by rw [hn]; exact hkl) (.inr (by rw [hn]; exact hin))
            have hA : (-32768 : Int) ≤ n ∧ n < 32768 := hin
            obtain ⟨hA, hB⟩ := hA
            by_cases hkj : 2 = j
            · subst hkj
              have hR : ¬ intBad b 2 := by
                rintro (h | h | h)
                · omega
                · omega
                · exact hiff.1 rfl h
              by_cases h32 : n < -2147483648
              · have hans : intAns b 2 (-2147483648) 2147483647 = none := by unfold intAns; rw [if_neg hR, if_pos (by rw [hn]; exact .inl h32)]
                go_wp2
                go_ret2
                exact ⟨rfl, rfl⟩
              · by_cases h33 : 2147483647 < n
                · have hans : intAns b 2 (-2147483648) 2147483647 = none := by unfold intAns; rw [if_neg hR, if_pos (by rw [hn]; exact .inr h33)]
                  go_wp2
                  go_ret2
                  exact ⟨rfl, rfl⟩
                · have hans : intAns b 2 (-2147483648) 2147483647 = some n := by unfold intAns; rw [if_neg hR, if_neg (by rw [hn]; omega), hn]
                  go_wp2
                  go_ret2
                  exact ⟨rfl, rfl⟩
            · have hR : intBad b j := .inr (.inr (Classical.not_not.1 (fun h => hkj (hiff.2 h))))
              have hans : intAns b j (-2147483648) 2147483647 = none := by unfold intAns; rw [if_pos hR]
              have hne : ((2 : Int) != (j : Int)) = true := by simp; omega
              go_wp2
              go_ret2
              exact ⟨rfl, rfl⟩
          · have hA : ¬ ((-32768 : Int) ≤ n ∧ n < 32768) := hin
            by_cases hB : n < -32768
            · have hC : ¬ ((-32768 : Int) ≤ n) := by omega
              go_wp2
              refine ⟨⟨3, by omega, by omega, rfl, fun l hl hl' => ?_⟩, by simp [intOf]⟩
              rcases Nat.lt_or_ge l 2 with h | h
              · exact hkl l hl h
              · obtain rfl : l = 2 := by omega
                exact hin
            · have hC : (-32768 : Int) ≤ n := by omega
              have hD : ¬ (n < 32768) := by omega
              go_wp2
              refine ⟨⟨3, by omega, by omega, rfl, fun l hl hl' => ?_⟩, by simp [intOf]⟩
              rcases Nat.lt_or_ge l 2 with h | h
              · exact hkl l hl h
              · obtain rfl : l = 2 := by omega
                exact hin
        · by_cases hin : inRange 3 n
          · have hiff := kmin_iff hb h1 h8 hk1 hk8 (by rw [hn]; exact hkl) (.inr (by rw [hn]; exact hin))
            have hA : (-8388608 : Int) ≤ n ∧ n < 8388608 := hin
            obtain ⟨hA, hB⟩ := hA
            by_cases hkj : 3 = j
            · subst hkj
              have hR : ¬ intBad b 3 := by
                rintro (h | h | h)
                · omega
                · omega
                · exact hiff.1 rfl h
              by_cases h32 : n < -2147483648
              · have hans : intAns b 3 (-2147483648) 2147483647 = none := by unfold intAns; rw [if_neg hR, if_pos (by rw [hn]; exact .inl h32)]
                go_wp2
                go_ret2
                exact ⟨rfl, rfl⟩
              · by_cases h33 : 2147483647 < n
                · have hans : intAns b 3 (-2147483648) 2147483647 = none := by unfold intAns; rw [if_neg hR, if_pos (by rw [hn]; exact .inr h33)]
                  go_wp2
                  go_ret2
                  exact ⟨rfl, rfl⟩
                · have hans : intAns b 3 (-2147483648) 2147483647 = some n := by unfold intAns; rw [if_neg hR, if_neg (by rw [hn]; omega), hn]
                  go_wp2
                  go_ret2
                  exact ⟨rfl, rfl⟩
            · have hR : intBad b j := .inr (.inr (Classical.not_not.1 (fun h => hkj (hiff.2 h))))
              have hans : intAns b j (-2147483648) 2147483647 = none := by unfold intAns; rw [if_pos hR]
              have hne : ((3 : Int) != (j : Int)) = true := by simp; omega
              go_wp2
              go_ret2
              exact ⟨rfl, rfl⟩
          · have hA : ¬ ((-8388608 : Int) ≤ n ∧ n < 8388608) := hin
            by_cases hB : n < -8388608
            · have hC : ¬ ((-8388608 : Int) ≤ n) := by omega
              go_wp2
              refine ⟨⟨4, by omega, by omega, rfl, fun l hl hl' => ?_⟩, by simp [intOf]⟩
              rcases Nat.lt_or_ge l 3 with h | h
              · exact hkl l hl h
              · obtain rfl : l = 3 := by omega
                exact hin
            · have hC : (-8388608 : Int) ≤ n := by omega
              have hD : ¬ (n < 8388608) := by omega
              go_wp2
              refine ⟨⟨4, by omega, by omega, rfl, fun l hl hl' => ?_⟩, by simp [intOf]⟩
              rcases Nat.lt_or_ge l 3 with h | h
              · exact hkl l hl h
              · obtain rfl : l = 3 := by omega
                exact hin
        · by_cases hin : inRange 4 n
          · have hiff := kmin_iff hb h1 h8 hk1 hk8 (by rw [hn]; exact hkl) (.inr (by rw [hn]; exact hin))
            have hA : (-2147483648 : Int) ≤ n ∧ n < 2147483648 := hin
            obtain ⟨hA, hB⟩ := hA
            by_cases hkj : 4 = j
            · subst hkj
              have hR : ¬ intBad b 4 := by
                rintro (h | h | h)
                · omega
                · omega
                · exact hiff.1 rfl h
              by_cases h32 : n < -2147483648
              · have hans : intAns b 4 (-2147483648) 2147483647 = none := by unfold intAns; rw [if_neg hR, if_pos (by rw [hn]; exact .inl h32)]
                go_wp2
                go_ret2
                exact ⟨rfl, rfl⟩
              · by_cases h33 : 2147483647 < n
                · have hans : intAns b 4 (-2147483648) 2147483647 = none := by unfold intAns; rw [if_neg hR, if_pos (by rw [hn]; exact .inr h33)]
                  go_wp2
                  go_ret2
                  exact ⟨rfl, rfl⟩
                · have hans : intAns b 4 (-2147483648) 2147483647 = some n := by unfold intAns; rw [if_neg hR, if_neg (by rw [hn]; omega), hn]
                  go_wp2
                  go_ret2
                  exact ⟨rfl, rfl⟩
            · have hR : intBad b j := .inr (.inr (Classical.not_not.1 (fun h => hkj (hiff.2 h))))
              have hans : intAns b j (-2147483648) 2147483647 = none := by unfold intAns; rw [if_pos hR]
              have hne : ((4 : Int) != (j : Int)) = true := by simp; omega
              go_wp2
              go_ret2
              exact ⟨rfl, rfl⟩
          · have hA : ¬ ((-2147483648 : Int) ≤ n ∧ n < 2147483648) := hin
            by_cases hB : n < -2147483648
            · have hC : ¬ ((-2147483648 : Int) ≤ n) := by omega
              go_wp2
              refine ⟨⟨5, by omega, by omega, rfl, fun l hl hl' => ?_⟩, by simp [intOf]⟩
              rcases Nat.lt_or_ge l 4 with h | h
              · exact hkl l hl h
              · obtain rfl : l = 4 := by omega
                exact hin
            · have hC : (-2147483648 : Int) ≤ n := by omega
              have hD : ¬ (n < 2147483648) := by omega
              go_wp2
              refine ⟨⟨5, by omega, by omega, rfl, fun l hl hl' => ?_⟩, by simp [intOf]⟩
              rcases Nat.lt_or_ge l 4 with h | h
              · exact hkl l hl h
              · obtain rfl : l = 4 := by omega
                exact hin
        · by_cases hin : inRange 5 n
          · have hiff := kmin_iff hb h1 h8 hk1 hk8 (by rw [hn]; exact hkl) (.inr (by rw [hn]; exact hin))
            have hA : (-549755813888 : Int) ≤ n ∧ n < 549755813888 := hin
            obtain ⟨hA, hB⟩ := hA
            by_cases hkj : 5 = j
            · subst hkj
              have hR : ¬ intBad b 5 := by
                rintro (h | h | h)
                · omega
                · omega
                · exact hiff.1 rfl h
              by_cases h32 : n < -2147483648
              · have hans : intAns b 5 (-2147483648) 2147483647 = none := by unfold intAns; rw [if_neg hR, if_pos (by rw [hn]; exact .inl h32)]
                go_wp2
                go_ret2
                exact ⟨rfl, rfl⟩
              · by_cases h33 : 2147483647 < n
                · have hans : intAns b 5 (-2147483648) 2147483647 = none := by unfold intAns; rw [if_neg hR, if_pos (by rw [hn]; exact .inr h33)]
                  go_wp2
                  go_ret2
                  exact ⟨rfl, rfl⟩
                · have hans : intAns b 5 (-2147483648) 2147483647 = some n := by unfold intAns; rw [if_neg hR, if_neg (by rw [hn]; omega), hn]
                  go_wp2
                  go_ret2
                  exact ⟨rfl, rfl⟩
            · have hR : intBad b j := .inr (.inr (Classical.not_not.1 (fun h => hkj (hiff.2 h))))
              have hans : intAns b j (-2147483648) 2147483647 = none := by unfold intAns; rw [if_pos hR]
              have hne : ((5 : Int) != (j : Int)) = true := by simp; omega
              go_wp2
              go_ret2
              exact ⟨rfl, rfl⟩
          · have hA : ¬ ((-549755813888 : Int) ≤ n ∧ n < 549755813888) := hin
            by_cases hB : n < -549755813888
            · have hC : ¬ ((-549755813888 : Int) ≤ n) := by omega
              go_wp2
              refine ⟨⟨6, by omega, by omega, rfl, fun l hl hl' => ?_⟩, by simp [intOf]⟩
              rcases Nat.lt_or_ge l 5 with h | h
              · exact hkl l hl h
              · obtain rfl : l = 5 := by omega
                exact hin
            · have hC : (-549755813888 : Int) ≤ n := by omega
              have hD : ¬ (n < 549755813888) := by omega
              go_wp2
              refine ⟨⟨6, by omega, by omega, rfl, fun l hl hl' => ?_⟩, by simp [intOf]⟩
              rcases Nat.lt_or_ge l 5 with h | h
              · exact hkl l hl h
              · obtain rfl : l = 5 := by omega
                exact hin
        · by_cases hin : inRange 6 n
          · have hiff := kmin_iff hb h1 h8 hk1 hk8 (by rw [hn]; exact hkl) (.inr (by rw [hn]; exact hin))
            have hA : (-140737488355328 : Int) ≤ n ∧ n < 140737488355328 := hin
            obtain ⟨hA, hB⟩ := hA
            by_cases hkj : 6 = j
            · subst hkj
              have hR : ¬ intBad b 6 := by
                rintro (h | h | h)
                · omega
                · omega
                · exact hiff.1 rfl h
              by_cases h32 : n < -2147483648
              · have hans : intAns b 6 (-2147483648) 2147483647 = none := by unfold intAns; rw [if_neg hR, if_pos (by rw [hn]; exact .inl h32)]
                go_wp2
                go_ret2
                exact ⟨rfl, rfl⟩
              · by_cases h33 : 2147483647 < n
                · have hans : intAns b 6 (-2147483648) 2147483647 = none := by unfold intAns; rw [if_neg hR, if_pos (by rw [hn]; exact .inr h33)]
                  go_wp2
                  go_ret2
                  exact ⟨rfl, rfl⟩
                · have hans : intAns b 6 (-2147483648) 2147483647 = some n := by unfold intAns; rw [if_neg hR, if_neg (by rw [hn]; omega), hn]
                  go_wp2
                  go_ret2
                  exact ⟨rfl, rfl⟩
            · have hR : intBad b j := .inr (.inr (Classical.not_not.1 (fun h => hkj (hiff.2 h))))
              have hans : intAns b j (-2147483648) 2147483647 = none := by unfold intAns; rw [if_pos hR]
              have hne : ((6 : Int) != (j : Int)) = true := by simp; omega
              go_wp2
              go_ret2
              exact ⟨rfl, rfl⟩
          · have hA : ¬ ((-140737488355328 : Int) ≤ n ∧ n < 140737488355328) := hin
            by_cases hB : n < -140737488355328
            · have hC : ¬ ((-140737488355328 : Int) ≤ n) := by omega
              go_wp2
              refine ⟨⟨7, by omega, by omega, rfl, fun l hl hl' => ?_⟩, by simp [intOf]⟩
              rcases Nat.lt_or_ge l 6 with h | h
              · exact hkl l hl h
              · obtain rfl : l = 6 := by omega
                exact hin
            · have hC : (-140737488355328 : Int) ≤ n := by omega
              have hD : ¬ (n < 140737488355328) := by omega
              go_wp2
              refine ⟨⟨7, by omega, by omega, rfl, fun l hl hl' => ?_⟩, by simp [intOf]⟩
              rcases Nat.lt_or_ge l 6 with h | h
              · exact hkl l hl h
              · obtain rfl : l = 6 := by omega
                exact hin
        · by_cases hin : inRange 7 n
          · have hiff := kmin_iff hb h1 h8 hk1 hk8 (by rw [hn]; exact hkl) (.inr (by rw [hn]; exact hin))
            have hA : (-36028797018963968 : Int) ≤ n ∧ n < 36028797018963968 := hin
            obtain ⟨hA, hB⟩ := hA
            by_cases hkj : 7 = j
            · subst hkj
              have hR : ¬ intBad b 7 := by
                rintro (h | h | h)
                · omega
                · omega
                · exact hiff.1 rfl h
              by_cases h32 : n < -2147483648
              · have hans : intAns b 7 (-2147483648) 2147483647 = none := by unfold intAns; rw [if_neg hR, if_pos (by rw [hn]; exact .inl h32)]
                go_wp2
                go_ret2
                exact ⟨rfl, rfl⟩
              · by_cases h33 : 2147483647 < n
                · have hans : intAns b 7 (-2147483648) 2147483647 = none := by unfold intAns; rw [if_neg hR, if_pos (by rw [hn]; exact .inr h33)]
                  go_wp2
                  go_ret2
                  exact ⟨rfl, rfl⟩
                · have hans : intAns b 7 (-2147483648) 2147483647 = some n := by unfold intAns; rw [if_neg hR, if_neg (by rw [hn]; omega), hn]
                  go_wp2
                  go_ret2
                  exact ⟨rfl, rfl⟩
            · have hR : intBad b j := .inr (.inr (Classical.not_not.1 (fun h => hkj (hiff.2 h))))
              have hans : intAns b j (-2147483648) 2147483647 = none := by unfold intAns; rw [if_pos hR]
              have hne : ((7 : Int) != (j : Int)) = true := by simp; omega
              go_wp2
              go_ret2
              exact ⟨rfl, rfl⟩
          · have hA : ¬ ((-36028797018963968 : Int) ≤ n ∧ n < 36028797018963968) := hin
            by_cases hB : n < -36028797018963968
            · have hC : ¬ ((-36028797018963968 : Int) ≤ n) := by omega
              go_wp2
              refine ⟨⟨8, by omega, by omega, rfl, fun l hl hl' => ?_⟩, by simp [intOf]⟩
              rcases Nat.lt_or_ge l 7 with h | h
              · exact hkl l hl h
              · obtain rfl : l = 7 := by omega
                exact hin
            · have hC : (-36028797018963968 : Int) ≤ n := by omega
              have hD : ¬ (n < 36028797018963968) := by omega
              go_wp2
              refine ⟨⟨8, by omega, by omega, rfl, fun l hl hl' => ?_⟩, by simp [intOf]⟩
              rcases Nat.lt_or_ge l 7 with h | h
              · exact hkl l hl h
              · obtain rfl : l = 7 := by omega
                exact hin
        · have hiff := kmin_iff hb h1 h8 hk1 hk8 (by rw [hn]; exact hkl) (.inl rfl)
          by_cases hkj : 8 = j
          · subst hkj
            have hR : ¬ intBad b 8 := by
              rintro (h | h | h)
              · omega
              · omega
              · exact hiff.1 rfl h
            by_cases h32 : n < -2147483648
            · have hans : intAns b 8 (-2147483648) 2147483647 = none := by unfold intAns; rw [if_neg hR, if_pos (by rw [hn]; exact .inl h32)]
              go_wp2
              go_ret2
              exact ⟨rfl, rfl⟩
            · by_cases h33 : 2147483647 < n
              · have hans : intAns b 8 (-2147483648) 2147483647 = none := by unfold intAns; rw [if_neg hR, if_pos (by rw [hn]; exact .inr h33)]
                go_wp2
                go_ret2
                exact ⟨rfl, rfl⟩
              · have hans : intAns b 8 (-2147483648) 2147483647 = some n := by unfold intAns; rw [if_neg hR, if_neg (by rw [hn]; omega), hn]
                go_wp2
                go_ret2
                exact ⟨rfl, rfl⟩
          · have hR : intBad b j := .inr (.inr (Classical.not_not.1 (fun h => hkj (hiff.2 h))))
            have hans : intAns b j (-2147483648) 2147483647 = none := by unfold intAns; rw [if_pos hR]
            have hne : ((8 : Int) != (j : Int)) = true := by simp; omega
            go_wp2
            go_ret2
            exact ⟨rfl, rfl⟩
end Go.Proofs.YbulkdtayFmt
