import Derived.Test.YbulkdtayFmtBits
import Derived.BigQuiet
namespace Go.Proofs.YbulkdtayFmt
open Go.RowKit

theorem i64_shl8 (n : Int) (b : Nat) (h0 : -36028797018963968 ≤ n) (h1 : n < 36028797018963968) (hb : b < 256) : bits .or .i64 (wrap64 (n * 256)) (wrap64 (b : Int)) = n * 256 + (b : Int) := by
  rw [show wrap64 (n * 256) = n * 256 by unfold wrap64; omega, show wrap64 (b : Int) = (b : Int) by unfold wrap64; omega]
  exact or_i64 _ _ (by omega) (by omega) (by omega) (by omega) (by omega)
theorem i8_of (b : Nat) (hb : b < 256) : IntKind.i8.wrap (b : Int) = if b < 128 then (b : Int) else (b : Int) - 256 := by
  simp [IntKind.wrap, IntKind.bits, IntKind.signed]
  split <;> split <;> omega

set_option maxHeartbeats 2000000 in
theorem pint_long (a : Option Addr) (len cap : Nat) (lo hi : Int) (E : Value) (w : World) (hm : len ≤ 9223372036854775807) (hE : w.cell? ⟨0, 0, none⟩ = some E) (h : len = 0 ∨ 8 < len) :
    Calls Ybaf.prog 16 #[.slice a len cap, .int .i64 lo, .int .i64 hi] w fun e w' => e = .returned (.tuple #[.int .i64 0, E]) ∧ ∃ n, w' = w.drewN n := by
  rcases h with rfl | h
  · go_enter Ybaf.func16, Ybaf.ntmps16
    go_wp2
    go_quiet (fail)
    go_wp2
    go_ret2
    exact ⟨rfl, _, rfl⟩
  · have h0 : ((len : Int) == 0) = false := by rw [beq_eq_false_iff_ne]; omega
    have h8' : decide ((8 : Int) < (len : Int)) = true := by simp; omega
    go_enter Ybaf.func16, Ybaf.ntmps16
    go_wp2
    go_quiet (fail)
    go_wp2
    go_ret2
    exact ⟨rfl, _, rfl⟩

set_option maxHeartbeats 2000000 in
theorem pint_red (g off len cap : Nat) (b : Nat → Nat) (lo hi : Int) (E : Value) (w : World) (h1 : 0 < len) (h8 : len ≤ 8) (hcell : ∀ j, j < len → w.cell? ⟨g, off + j, none⟩ = some (.int .u8 (b j : Nat))) (hE : w.cell? ⟨0, 0, none⟩ = some E) (hr : redundant b len) :
    Calls Ybaf.prog 16 #[.slice (some ⟨g, off, none⟩) len cap, .int .i64 lo, .int .i64 hi] w fun e w' => e = .returned (.tuple #[.int .i64 0, E]) ∧ ∃ n, w' = w.drewN n := by
  have h0 : ((len : Int) == 0) = false := by rw [beq_eq_false_iff_ne]; omega
  have h8' : decide ((8 : Int) < (len : Int)) = false := by simp; omega
  obtain ⟨h2, hr⟩ := hr
  have h2' : decide ((1 : Int) < (len : Int)) = true := by simp; omega
  have c0 : w.cell? ⟨g, off, none⟩ = some (.int .u8 (b 0 : Nat)) := hcell 0 h1
  have c1 := hcell 1 h2
  rcases hr with ⟨e0, e1⟩ | ⟨e0, e1⟩
  · rw [e0] at c0
    have e1' : decide (((b 1 : Nat) : Int) < 128) = true := by simp; omega
    go_enter Ybaf.func16, Ybaf.ntmps16
    go_wp2
    go_quiet (fail)
    go_wp2
    go_ret2
    exact ⟨rfl, _, rfl⟩
  · rw [e0] at c0
    have e1' : decide ((128 : Int) ≤ ((b 1 : Nat) : Int)) = true := by simp; omega
    go_enter Ybaf.func16, Ybaf.ntmps16
    go_wp2
    go_quiet (fail)
    go_wp2
    go_ret2
    exact ⟨rfl, _, rfl⟩

theorem sv_one (b : Nat → Nat) (hb : b 0 < 256) : wrap64 (IntKind.i8.wrap ((b 0 : Nat) : Int)) = sv b 1 := by
  rw [i8_of _ hb]
  unfold sv wrap64
  simp only [uv]
  split <;> omega
def errOr (E : Value) (o : Option Int) : Value := if o.isSome then .nilIface else E

set_option maxHeartbeats 8000000 in
theorem pint_one (g off cap : Nat) (b : Nat → Nat) (lo hi : Int) (E : Value) (w : World) (hb : ∀ j, b j < 256) (c0 : w.cell? ⟨g, off, none⟩ = some (.int .u8 (b 0 : Nat))) (hE : w.cell? ⟨0, 0, none⟩ = some E) :
    Calls Ybaf.prog 16 #[.slice (some ⟨g, off, none⟩) 1 cap, .int .i64 lo, .int .i64 hi] w fun e w' => e = .returned (.tuple #[.int .i64 ((intAns b 1 lo hi).getD 0), errOr E (intAns b 1 lo hi)]) ∧ ∃ n, w' = w.drewN n := by
  have hs := sv_one b (hb 0)
  have hbad : ¬ intBad b 1 := by
    rintro (h | h | h)
    · omega
    · omega
    · exact absurd h.1 (by omega)
  generalize hN : sv b 1 = N at hs
  by_cases hc1 : cap = 1
  · go_enter Ybaf.func16, Ybaf.ntmps16
    go_wp2
    go_loop [8, 57] (fun n i => n = .int .i64 N ∧ i = .int .i64 0) (fun _ _ => 0)
    case atStart => exact ⟨by rw [hs], rfl⟩
    case round =>
      obtain ⟨rfl, rfl⟩ := hrel
      by_cases hlo : N < lo
      · have hans : intAns b 1 lo hi = none := by unfold intAns; rw [if_neg hbad, if_pos (.inl (by rw [hN]; exact hlo))]
        go_wp2
        go_quiet (fail)
        go_wp2
        go_ret2
        simp only [hans]
        exact ⟨rfl, _, rfl⟩
      · by_cases hhi : hi < N
        · have hans : intAns b 1 lo hi = none := by unfold intAns; rw [if_neg hbad, if_pos (.inr (by rw [hN]; exact hhi))]
          go_wp2
          go_quiet (fail)
          go_wp2
          go_ret2
          simp only [hans]
          exact ⟨rfl, _, rfl⟩
        · have hans : intAns b 1 lo hi = some N := by unfold intAns; rw [if_neg hbad, if_neg (by rw [hN]; omega), hN]
          go_wp2
          go_ret2
          exact ⟨rfl, 0, rfl⟩
  · go_enter Ybaf.func16, Ybaf.ntmps16
    go_wp2
    go_loop [8, 57] (fun n i => n = .int .i64 N ∧ i = .int .i64 0) (fun _ _ => 0)
    case atStart => exact ⟨by rw [hs], rfl⟩
    case round =>
      obtain ⟨rfl, rfl⟩ := hrel
      by_cases hlo : N < lo
      · have hans : intAns b 1 lo hi = none := by unfold intAns; rw [if_neg hbad, if_pos (.inl (by rw [hN]; exact hlo))]
        go_wp2
        go_quiet (fail)
        go_wp2
        go_ret2
        simp only [hans]
        exact ⟨rfl, _, rfl⟩
      · by_cases hhi : hi < N
        · have hans : intAns b 1 lo hi = none := by unfold intAns; rw [if_neg hbad, if_pos (.inr (by rw [hN]; exact hhi))]
          go_wp2
          go_quiet (fail)
          go_wp2
          go_ret2
          simp only [hans]
          exact ⟨rfl, _, rfl⟩
        · have hans : intAns b 1 lo hi = some N := by unfold intAns; rw [if_neg hbad, if_neg (by rw [hN]; omega), hN]
          go_wp2
          go_ret2
          exact ⟨rfl, 0, rfl⟩

set_option maxHeartbeats 8000000 in
theorem pint_ok (g off len cap : Nat) (b : Nat → Nat) (lo hi : Int) (E : Value) (w : World) (hb : ∀ j, b j < 256) (h1 : 1 < len) (h8 : len ≤ 8) (hcap : len ≤ cap) (hcell : ∀ j, j < len → w.cell? ⟨g, off + j, none⟩ = some (.int .u8 (b j : Nat))) (hE : w.cell? ⟨0, 0, none⟩ = some E) (hr : ¬ redundant b len) :
    Calls Ybaf.prog 16 #[.slice (some ⟨g, off, none⟩) len cap, .int .i64 lo, .int .i64 hi] w fun e w' => e = .returned (.tuple #[.int .i64 ((intAns b len lo hi).getD 0), errOr E (intAns b len lo hi)]) ∧ ∃ n, w' = w.drewN n := by
  have h0 : ((len : Int) == 0) = false := by rw [beq_eq_false_iff_ne]; omega
  have h8' : decide ((8 : Int) < (len : Int)) = false := by simp; omega
  have c0 : w.cell? ⟨g, off, none⟩ = some (.int .u8 (b 0 : Nat)) := hcell 0 (by omega)
  have hs := sv_one b (hb 0)
  have hbad : ¬ intBad b len := by
    rintro (h | h | h)
    · omega
    · omega
    · exact hr h
  have h2' : decide ((1 : Int) < (len : Int)) = true := by simp; omega
  have hc1 : ¬ cap = 1 := by omega
  have c1 := hcell 1 (by omega)
  by_cases e0 : b 0 = 0
  · have e0' : (((b 0 : Nat) : Int) == 0) = true := by simp; omega
    have e1 : ¬ b 1 < 128 := fun h => hr ⟨by omega, .inl ⟨e0, h⟩⟩
    have e1' : decide (((b 1 : Nat) : Int) < 128) = false := by simp; omega
    have e2' : (((b 0 : Nat) : Int) == 255) = false := by rw [beq_eq_false_iff_ne]; omega
    go_enter Ybaf.func16, Ybaf.ntmps16
    go_wp2
    go_loop [8, 57] (fun n i => ∃ j : Nat, j + 1 ≤ len ∧ i = .int .i64 j ∧ n = .int .i64 (sv b (j + 1))) (fun _ i => len - (intOf i).toNat)
    case atStart => exact ⟨0, by omega, rfl, by rw [← hs, e0, show wrap64 (IntKind.i8.wrap ((0 : Nat) : Int)) = 0 by decide +kernel]⟩
    case round =>
      clear hs c0 c1 h0 h8' h2' e0 e0' e1 e1' e2'
      obtain ⟨j, hj, rfl, rfl⟩ := hrel
      by_cases hlt : j + 1 < len
      · have hc : w.cell? ⟨g, off + 1 + j, none⟩ = some (.int .u8 (b (j + 1) : Nat)) := by
          have := hcell (j + 1) hlt
          rwa [show off + (j + 1) = off + 1 + j by omega] at this
        have hlow := sv_bound hb j
        have hp : 256 ^ j ≤ 256 ^ 6 := Nat.pow_le_pow_right (by decide) (by omega)
        have hor := i64_shl8 (sv b (j + 1)) (b (j + 1)) (by omega) (by omega) (hb _)
        have hlt2 : (j : Int) < (len : Int) - 1 := by omega
        clear hlow hp
        go_wp2
        exact ⟨⟨j + 1, by omega, by simp, by rw [sv_succ (j + 1)]⟩, by simp [intOf]; omega⟩
      · have hlt2 : ¬ ((j : Int) < (len : Int) - 1) := by omega
        have hN : sv b len = sv b (j + 1) := by rw [show len = j + 1 by omega]
        generalize sv b (j + 1) = N at hN
        by_cases hlo : N < lo
        · have hans : intAns b len lo hi = none := by unfold intAns; rw [if_neg hbad, if_pos (.inl (by rw [hN]; exact hlo))]
          go_wp2
          go_quiet (fail)
          go_wp2
          go_ret2
          simp only [hans]
          exact ⟨rfl, _, rfl⟩
        · by_cases hhi : hi < N
          · have hans : intAns b len lo hi = none := by unfold intAns; rw [if_neg hbad, if_pos (.inr (by rw [hN]; exact hhi))]
            go_wp2
            go_quiet (fail)
            go_wp2
            go_ret2
            simp only [hans]
            exact ⟨rfl, _, rfl⟩
          · have hans : intAns b len lo hi = some N := by unfold intAns; rw [if_neg hbad, if_neg (by rw [hN]; omega), hN]
            go_wp2
            go_ret2
            exact ⟨rfl, 0, rfl⟩
  · have e0' : (((b 0 : Nat) : Int) == 0) = false := by rw [beq_eq_false_iff_ne]; omega
    by_cases e2 : b 0 = 255
    · have e2' : (((b 0 : Nat) : Int) == 255) = true := by simp; omega
      have e1 : ¬ 128 ≤ b 1 := fun h => hr ⟨by omega, .inr ⟨e2, h⟩⟩
      have e1' : decide ((128 : Int) ≤ ((b 1 : Nat) : Int)) = false := by simp; omega
      go_enter Ybaf.func16, Ybaf.ntmps16
      go_wp2
      go_loop [8, 57] (fun n i => ∃ j : Nat, j + 1 ≤ len ∧ i = .int .i64 j ∧ n = .int .i64 (sv b (j + 1))) (fun _ i => len - (intOf i).toNat)
      case atStart => exact ⟨0, by omega, rfl, by rw [← hs, e2]; rfl⟩
      case round =>
        clear hs c0 c1 h0 h8' h2' e0 e0' e1 e1' e2 e2'
        obtain ⟨j, hj, rfl, rfl⟩ := hrel
        by_cases hlt : j + 1 < len
        · have hc : w.cell? ⟨g, off + 1 + j, none⟩ = some (.int .u8 (b (j + 1) : Nat)) := by
            have := hcell (j + 1) hlt
            rwa [show off + (j + 1) = off + 1 + j by omega] at this
          have hlow := sv_bound hb j
          have hp : 256 ^ j ≤ 256 ^ 6 := Nat.pow_le_pow_right (by decide) (by omega)
          have hor := i64_shl8 (sv b (j + 1)) (b (j + 1)) (by omega) (by omega) (hb _)
          have hlt2 : (j : Int) < (len : Int) - 1 := by omega
          clear hlow hp
          go_wp2
          exact ⟨⟨j + 1, by omega, by simp, by rw [sv_succ (j + 1)]⟩, by simp [intOf]; omega⟩
        · have hlt2 : ¬ ((j : Int) < (len : Int) - 1) := by omega
          have hN : sv b len = sv b (j + 1) := by rw [show len = j + 1 by omega]
          generalize sv b (j + 1) = N at hN
          by_cases hlo : N < lo
          · have hans : intAns b len lo hi = none := by unfold intAns; rw [if_neg hbad, if_pos (.inl (by rw [hN]; exact hlo))]
            go_wp2
            go_quiet (fail)
            go_wp2
            go_ret2
            simp only [hans]
            exact ⟨rfl, _, rfl⟩
          · by_cases hhi : hi < N
            · have hans : intAns b len lo hi = none := by unfold intAns; rw [if_neg hbad, if_pos (.inr (by rw [hN]; exact hhi))]
              go_wp2
              go_quiet (fail)
              go_wp2
              go_ret2
              simp only [hans]
              exact ⟨rfl, _, rfl⟩
            · have hans : intAns b len lo hi = some N := by unfold intAns; rw [if_neg hbad, if_neg (by rw [hN]; omega), hN]
              go_wp2
              go_ret2
              exact ⟨rfl, 0, rfl⟩
    · have e2' : (((b 0 : Nat) : Int) == 255) = false := by rw [beq_eq_false_iff_ne]; omega
      go_enter Ybaf.func16, Ybaf.ntmps16
      go_wp2
      go_loop [8, 57] (fun n i => ∃ j : Nat, j + 1 ≤ len ∧ i = .int .i64 j ∧ n = .int .i64 (sv b (j + 1))) (fun _ i => len - (intOf i).toNat)
      case atStart => exact ⟨0, by omega, rfl, by rw [hs]⟩
      case round =>
        clear hs c0 c1 h0 h8' h2' e0 e0' e2 e2'
        obtain ⟨j, hj, rfl, rfl⟩ := hrel
        by_cases hlt : j + 1 < len
        · have hc : w.cell? ⟨g, off + 1 + j, none⟩ = some (.int .u8 (b (j + 1) : Nat)) := by
            have := hcell (j + 1) hlt
            rwa [show off + (j + 1) = off + 1 + j by omega] at this
          have hlow := sv_bound hb j
          have hp : 256 ^ j ≤ 256 ^ 6 := Nat.pow_le_pow_right (by decide) (by omega)
          have hor := i64_shl8 (sv b (j + 1)) (b (j + 1)) (by omega) (by omega) (hb _)
          have hlt2 : (j : Int) < (len : Int) - 1 := by omega
          clear hlow hp
          go_wp2
          exact ⟨⟨j + 1, by omega, by simp, by rw [sv_succ (j + 1)]⟩, by simp [intOf]; omega⟩
        · have hlt2 : ¬ ((j : Int) < (len : Int) - 1) := by omega
          have hN : sv b len = sv b (j + 1) := by rw [show len = j + 1 by omega]
          generalize sv b (j + 1) = N at hN
          by_cases hlo : N < lo
          · have hans : intAns b len lo hi = none := by unfold intAns; rw [if_neg hbad, if_pos (.inl (by rw [hN]; exact hlo))]
            go_wp2
            go_quiet (fail)
            go_wp2
            go_ret2
            simp only [hans]
            exact ⟨rfl, _, rfl⟩
          · by_cases hhi : hi < N
            · have hans : intAns b len lo hi = none := by unfold intAns; rw [if_neg hbad, if_pos (.inr (by rw [hN]; exact hhi))]
              go_wp2
              go_quiet (fail)
              go_wp2
              go_ret2
              simp only [hans]
              exact ⟨rfl, _, rfl⟩
            · have hans : intAns b len lo hi = some N := by unfold intAns; rw [if_neg hbad, if_neg (by rw [hN]; omega), hN]
              go_wp2
              go_ret2
              exact ⟨rfl, 0, rfl⟩

/-- What is told of a slice of bytes: b j is its j-th byte. -/
def IsBytes (w : World) (a : Option Addr) (len cap : Nat) (b : Nat → Nat) : Prop :=
  len ≤ cap ∧ cap ≤ 9223372036854775807 ∧ (∀ j, b j < 256) ∧ (0 < len → ∃ g off, a = some ⟨g, off, none⟩ ∧ ∀ j, j < len → w.cell? ⟨g, off + j, none⟩ = some (.int .u8 (b j : Nat)))
theorem IsBytes.drewN {w : World} {a : Option Addr} {len cap : Nat} {b : Nat → Nat} (h : IsBytes w a len cap b) (n : Nat) : IsBytes (w.drewN n) a len cap b := h

/-- parseInteger. -/
theorem pint_any (a : Option Addr) (len cap : Nat) (b : Nat → Nat) (lo hi : Int) (E : Value) (w : World) (h : IsBytes w a len cap b) (hE : w.cell? ⟨0, 0, none⟩ = some E) :
    Calls Ybaf.prog 16 #[.slice a len cap, .int .i64 lo, .int .i64 hi] w fun e w' => e = .returned (.tuple #[.int .i64 ((intAns b len lo hi).getD 0), errOr E (intAns b len lo hi)]) ∧ ∃ n, w' = w.drewN n := by
  obtain ⟨hlc, hcm, hb, hc⟩ := h
  by_cases hlen : len = 0 ∨ 8 < len
  · have hans : intAns b len lo hi = none := by unfold intAns; rw [if_pos]; rcases hlen with h | h; exact .inl h; exact .inr (.inl h)
    rw [hans]
    exact pint_long a len cap lo hi E w (by omega) hE hlen
  · obtain ⟨g, off, rfl, hcell⟩ := hc (by omega)
    by_cases hr : redundant b len
    · have hans : intAns b len lo hi = none := by unfold intAns; rw [if_pos]; exact .inr (.inr hr)
      rw [hans]
      exact pint_red g off len cap b lo hi E w (by omega) (by omega) hcell hE hr
    · by_cases h1 : len = 1
      · subst h1
        exact pint_one g off cap b lo hi E w hb (hcell 0 (by omega)) hE
      · exact pint_ok g off len cap b lo hi E w hb (by omega) (by omega) hlc hcell hE hr
end Go.Proofs.YbulkdtayFmt
