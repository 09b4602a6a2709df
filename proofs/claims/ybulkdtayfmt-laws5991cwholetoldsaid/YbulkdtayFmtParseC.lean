import Derived.Test.YbulkdtayFmtUns
import Derived.Test.YbulkdtayFmtPlainC
import Derived.BigQuiet
namespace Go.Proofs.YbulkdtayFmt
open Go.RowKit

theorem cpar_zero (a : Option Addr) (cap : Nat) (w : World) : Calls Ybaf.prog 15 #[.slice a 0 cap] w fun e w' => e = .returned (.tuple #[.int .i64 0, .bool false]) ∧ w' = w := by
  go_enter Ybaf.func15, Ybaf.ntmps15
  go_wp2
  go_ret2
  exact ⟨rfl, rfl⟩
theorem cpar_lone (g off cap : Nat) (c : Nat) (w : World) (hc : Hid (c = 43 ∨ c = 45)) (hcell : w.cell? ⟨g, off, none⟩ = some (.int .u8 (c : Nat))) : Calls Ybaf.prog 15 #[.slice (some ⟨g, off, none⟩) 1 cap] w fun e w' => e = .returned (.tuple #[.int .i64 0, .bool false]) ∧ w' = w := by
  rcases hc.out with rfl | rfl
  · go_enter Ybaf.func15, Ybaf.ntmps15
    go_wp2
    go_ret2
    exact ⟨rfl, rfl⟩
  · go_enter Ybaf.func15, Ybaf.ntmps15
    go_wp2
    go_ret2
    exact ⟨rfl, rfl⟩

theorem limB_step {lim : Nat} {b : Nat → Nat} {len n m c : Nat} (hn : n < len) (hc : b n = c) (hd : 48 ≤ c ∧ c ≤ 57) (hx : m * 10 + (c - 48) ≤ lim) : limB lim b (len - n) n m = limB lim b (len - (n + 1)) (n + 1) (m * 10 + (c - 48)) := by
  obtain ⟨k, hk⟩ : ∃ k, len - n = k + 1 := ⟨len - n - 1, by omega⟩
  rw [hk, show len - (n + 1) = k by omega, limB, hc, if_pos hd, if_neg (by omega)]
theorem limB_over {lim : Nat} {b : Nat → Nat} {len n m c : Nat} (hn : n < len) (hc : b n = c) (hd : 48 ≤ c ∧ c ≤ 57) (hx : lim < m * 10 + (c - 48)) : limB lim b (len - n) n m = none := by
  obtain ⟨k, hk⟩ : ∃ k, len - n = k + 1 := ⟨len - n - 1, by omega⟩
  rw [hk, limB, hc, if_pos hd, if_pos hx]
theorem limB_bad {lim : Nat} {b : Nat → Nat} {len n m c : Nat} (hn : n < len) (hc : b n = c) (hd : ¬ (48 ≤ c ∧ c ≤ 57)) : limB lim b (len - n) n m = none := by
  obtain ⟨k, hk⟩ : ∃ k, len - n = k + 1 := ⟨len - n - 1, by omega⟩
  rw [hk, limB, hc, if_neg hd]
theorem limB_end {lim : Nat} {b : Nat → Nat} {len m : Nat} : limB lim b (len - len) len m = some m := by
  rw [Nat.sub_self]
  rfl

set_option maxRecDepth 100000 in
set_option maxHeartbeats 2000000 in
theorem cpar_neg (g off len cap : Nat) (b : Nat → Nat) (w : World) (hb : ∀ j, b j < 256) (h0 : 1 < len) (hm : len ≤ 9223372036854775807) (hf : Hid (b 0 = 45)) (hcell : ∀ j, j < len → w.cell? ⟨g, off + j, none⟩ = some (.int .u8 (b j : Nat))) :
    Calls Ybaf.prog 15 #[.slice (some ⟨g, off, none⟩) len cap] w fun e w' => e = .returned (.tuple #[.int .i64 (((limB 9223372036854775808 b (len - 1) 1 0).map fun (u : Nat) => -(u : Int)).getD 0), .bool (limB 9223372036854775808 b (len - 1) 1 0).isSome]) ∧ w' = w := by
  have c0 : w.cell? ⟨g, off, none⟩ = some (.int .u8 45) := by have := hcell 0 (by omega); rw [hf.out] at this; exact this
  have hl0 : (0 : Int) < (len : Int) := by omega
  have HC := hide hcell
  clear hcell
  generalize hR : limB 9223372036854775808 b (len - 1) 1 0 = R
  have HR := hide hR
  clear hR
  go_enter Ybaf.func15, Ybaf.ntmps15
  go_wp2_with fail
  go_loopw [4, 7] (fun i acc wl => ∃ n m : Nat, n ≤ len ∧ i = .int .i64 n ∧ acc = .int .u64 m ∧ m ≤ 9223372036854775808 ∧ Hid (limB 9223372036854775808 b (len - n) n m = R) ∧ wl = w) (fun i _ _ => len - (intOf i).toNat)
  case atStart => exact ⟨1, 0, by omega, rfl, rfl, by omega, HR, rfl⟩
  case round =>
    obtain ⟨n, m, hn, rfl, rfl, hml, HL, rfl⟩ := hrel
    by_cases hlt : n < len
    · have cn := HC.out n hlt
      have hbn := hb n
      generalize hc : b n = c at cn hbn
      have HCN := hide hc
      clear hc
      by_cases hd : 48 ≤ c ∧ c ≤ 57
      · by_cases hx : m * 10 + (c - 48) ≤ 9223372036854775808
        · have hxi : ¬ (9223372036854775808 - ((c : Int) - 48)) / 10 < (m : Int) := by omega
          go_wp2_with fail
          refine ⟨⟨n + 1, m * 10 + (c - 48), by omega, by simp, by simp; omega, hx, hide ((limB_step hlt HCN.out hd hx).symm.trans HL.out), trivial⟩, ?_⟩
          simp [intOf]
          omega
        · have hxi : (9223372036854775808 - ((c : Int) - 48)) / 10 < (m : Int) := by omega
          have hR := hide ((limB_over hlt HCN.out hd (by omega)).symm.trans HL.out)
          go_wp2
          go_ret2
          rw [← hR.out]
          exact ⟨rfl, rfl⟩
      · have hR := hide ((limB_bad hlt HCN.out hd).symm.trans HL.out)
        by_cases h48 : c < 48
        · go_wp2
          go_ret2
          rw [← hR.out]
          exact ⟨rfl, rfl⟩
        · go_wp2
          go_ret2
          rw [← hR.out]
          exact ⟨rfl, rfl⟩
    · obtain rfl : n = len := by omega
      rw [limB_end] at HL
      by_cases hmx : m = 9223372036854775808
      · subst hmx
        go_wp2
        go_ret2
        rw [← HL.out]
        exact ⟨rfl, rfl⟩
      · have hmi : ((m : Int) == 9223372036854775808) = false := by simp; omega
        have hw : wrap64 (m : Int) = (m : Int) := by unfold wrap64; omega
        go_wp2
        go_ret2
        rw [← HL.out]
        exact ⟨by simp, rfl⟩

set_option maxRecDepth 100000 in
set_option maxHeartbeats 2000000 in
theorem cpar_plus (g off len cap : Nat) (b : Nat → Nat) (w : World) (hb : ∀ j, b j < 256) (h0 : 1 < len) (hm : len ≤ 9223372036854775807) (hf : Hid (b 0 = 43)) (hcell : ∀ j, j < len → w.cell? ⟨g, off + j, none⟩ = some (.int .u8 (b j : Nat))) :
    Calls Ybaf.prog 15 #[.slice (some ⟨g, off, none⟩) len cap] w fun e w' => e = .returned (.tuple #[.int .i64 (((limB 9223372036854775807 b (len - 1) 1 0).map fun (u : Nat) => (u : Int)).getD 0), .bool (limB 9223372036854775807 b (len - 1) 1 0).isSome]) ∧ w' = w := by
  have c0 : w.cell? ⟨g, off, none⟩ = some (.int .u8 43) := by have := hcell 0 (by omega); rw [hf.out] at this; exact this
  have hl0 : (0 : Int) < (len : Int) := by omega
  have HC := hide hcell
  clear hcell
  generalize hR : limB 9223372036854775807 b (len - 1) 1 0 = R
  have HR := hide hR
  clear hR
  go_enter Ybaf.func15, Ybaf.ntmps15
  go_wp2_with fail
  go_loopw [4, 7] (fun i acc wl => ∃ n m : Nat, n ≤ len ∧ i = .int .i64 n ∧ acc = .int .u64 m ∧ m ≤ 9223372036854775807 ∧ Hid (limB 9223372036854775807 b (len - n) n m = R) ∧ wl = w) (fun i _ _ => len - (intOf i).toNat)
  case atStart => exact ⟨1, 0, by omega, rfl, rfl, by omega, HR, rfl⟩
  case round =>
    obtain ⟨n, m, hn, rfl, rfl, hml, HL, rfl⟩ := hrel
    by_cases hlt : n < len
    · have cn := HC.out n hlt
      have hbn := hb n
      generalize hc : b n = c at cn hbn
      have HCN := hide hc
      clear hc
      by_cases hd : 48 ≤ c ∧ c ≤ 57
      · by_cases hx : m * 10 + (c - 48) ≤ 9223372036854775807
        · have hxi : ¬ (9223372036854775807 - ((c : Int) - 48)) / 10 < (m : Int) := by omega
          go_wp2_with fail
          refine ⟨⟨n + 1, m * 10 + (c - 48), by omega, by simp, by simp; omega, hx, hide ((limB_step hlt HCN.out hd hx).symm.trans HL.out), trivial⟩, ?_⟩
          simp [intOf]
          omega
        · have hxi : (9223372036854775807 - ((c : Int) - 48)) / 10 < (m : Int) := by omega
          have hR := hide ((limB_over hlt HCN.out hd (by omega)).symm.trans HL.out)
          go_wp2
          go_ret2
          rw [← hR.out]
          exact ⟨rfl, rfl⟩
      · have hR := hide ((limB_bad hlt HCN.out hd).symm.trans HL.out)
        by_cases h48 : c < 48
        · go_wp2
          go_ret2
          rw [← hR.out]
          exact ⟨rfl, rfl⟩
        · go_wp2
          go_ret2
          rw [← hR.out]
          exact ⟨rfl, rfl⟩
    · obtain rfl : n = len := by omega
      rw [limB_end] at HL
      have hw : wrap64 (m : Int) = (m : Int) := by unfold wrap64; omega
      go_wp2
      go_ret2
      rw [← HL.out]
      exact ⟨by simp, rfl⟩

set_option maxRecDepth 100000 in
set_option maxHeartbeats 2000000 in
theorem cpar_none (g off len cap : Nat) (b : Nat → Nat) (w : World) (hb : ∀ j, b j < 256) (h0 : 0 < len) (hm : len ≤ 9223372036854775807) (hf : Hid (b 0 ≠ 43 ∧ b 0 ≠ 45)) (hcell : ∀ j, j < len → w.cell? ⟨g, off + j, none⟩ = some (.int .u8 (b j : Nat))) :
    Calls Ybaf.prog 15 #[.slice (some ⟨g, off, none⟩) len cap] w fun e w' => e = .returned (.tuple #[.int .i64 (((limB 9223372036854775807 b len 0 0).map fun (u : Nat) => (u : Int)).getD 0), .bool (limB 9223372036854775807 b len 0 0).isSome]) ∧ w' = w := by
  have c0 : w.cell? ⟨g, off, none⟩ = some (.int .u8 (b 0 : Nat)) := hcell 0 (by omega)
  have hb0 := hb 0
  generalize hq : b 0 = q at c0 hb0
  have HQ := hide hq
  have n1 : ((q : Int) == 43) = false := by have := hf.out.1; simp; omega
  have n2 : ((q : Int) == 45) = false := by have := hf.out.2; simp; omega
  clear hq
  have hl0 : (0 : Int) < (len : Int) := by omega
  have HC := hide hcell
  clear hcell
  generalize hR : limB 9223372036854775807 b len 0 0 = R
  have HR := hide hR
  clear hR
  go_enter Ybaf.func15, Ybaf.ntmps15
  go_wp2_with fail
  go_loopw [4, 7] (fun i acc wl => ∃ n m : Nat, n ≤ len ∧ i = .int .i64 n ∧ acc = .int .u64 m ∧ m ≤ 9223372036854775807 ∧ Hid (limB 9223372036854775807 b (len - n) n m = R) ∧ wl = w) (fun i _ _ => len - (intOf i).toNat)
  case atStart => exact ⟨0, 0, by omega, rfl, rfl, by omega, HR, rfl⟩
  case round =>
    obtain ⟨n, m, hn, rfl, rfl, hml, HL, rfl⟩ := hrel
    by_cases hlt : n < len
    · have cn := HC.out n hlt
      have hbn := hb n
      generalize hc : b n = c at cn hbn
      have HCN := hide hc
      clear hc
      by_cases hd : 48 ≤ c ∧ c ≤ 57
      · by_cases hx : m * 10 + (c - 48) ≤ 9223372036854775807
        · have hxi : ¬ (9223372036854775807 - ((c : Int) - 48)) / 10 < (m : Int) := by omega
          go_wp2_with fail
          go_roundw
          case rel => exact ⟨_, _, _, _, ⟨n + 1, by omega, rfl, m * 10 + (c - 48), rfl, hx, hide ((limB_step hlt HCN.out hd hx).symm.trans HL.out)⟩, rfl, rfl, by simp, by simp; omega⟩
          case measure => simp [intOf]; omega
        · have hxi : (9223372036854775807 - ((c : Int) - 48)) / 10 < (m : Int) := by omega
          have hR := hide ((limB_over hlt HCN.out hd (by omega)).symm.trans HL.out)
          go_wp2
          go_ret2
          rw [← hR.out]
          exact ⟨rfl, rfl⟩
      · have hR := hide ((limB_bad hlt HCN.out hd).symm.trans HL.out)
        by_cases h48 : c < 48
        · go_wp2
          go_ret2
          rw [← hR.out]
          exact ⟨rfl, rfl⟩
        · go_wp2
          go_ret2
          rw [← hR.out]
          exact ⟨rfl, rfl⟩
    · obtain rfl : n = len := by omega
      rw [limB_end] at HL
      have hw : wrap64 (m : Int) = (m : Int) := by unfold wrap64; omega
      go_wp2
      go_ret2
      rw [← HL.out]
      exact ⟨by simp, rfl⟩

/-- zzs5991cparse. -/
theorem cparse_any (a : Option Addr) (len cap : Nat) (b : Nat → Nat) (w : World) (h : IsBytes w a len cap b) :
    Calls Ybaf.prog 15 #[.slice a len cap] w fun e w' => e = .returned (.tuple #[.int .i64 ((cpar b len).getD 0), .bool (cpar b len).isSome]) ∧ w' = w := by
  obtain ⟨hlc, hcm, hb, hc⟩ := h
  rcases Nat.eq_zero_or_pos len with rfl | hp
  · exact cpar_zero a cap w
  · obtain ⟨g, off, rfl, hcell⟩ := hc hp
    unfold cpar
    rw [if_neg (by omega)]
    by_cases h45 : b 0 = 45
    · rw [if_pos h45]
      by_cases h1 : len = 1
      · subst h1
        rw [if_pos rfl]
        exact cpar_lone g off cap (b 0) w (hide (Or.inr h45)) (hcell 0 (by omega))
      · rw [if_neg h1]
        refine (cpar_neg g off len cap b w hb (by omega) (by omega) (hide h45) hcell).mono ?_
        rintro e w' ⟨rfl, rfl⟩
        exact ⟨by simp, rfl⟩
    · rw [if_neg h45]
      by_cases h43 : b 0 = 43
      · rw [if_pos h43]
        by_cases h1 : len = 1
        · subst h1
          rw [if_pos rfl]
          exact cpar_lone g off cap (b 0) w (hide (Or.inl h43)) (hcell 0 (by omega))
        · rw [if_neg h1]
          refine (cpar_plus g off len cap b w hb (by omega) (by omega) (hide h43) hcell).mono ?_
          rintro e w' ⟨rfl, rfl⟩
          exact ⟨by simp, rfl⟩
      · rw [if_neg h43]
        refine (cpar_none g off len cap b w hb (by omega) (by omega) (hide ⟨h43, h45⟩) hcell).mono ?_
        rintro e w' ⟨rfl, rfl⟩
        exact ⟨by simp, rfl⟩
end Go.Proofs.YbulkdtayFmt
