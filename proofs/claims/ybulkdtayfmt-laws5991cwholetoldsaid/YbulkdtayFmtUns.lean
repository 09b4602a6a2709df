import Derived.Test.YbulkdtayFmtInts2
import Derived.Test.YbulkdtayFmtInts
namespace Go.Proofs.YbulkdtayFmt
open Go.RowKit

abbrev unsBad (b : Nat → Nat) (len : Nat) : Prop := len = 0 ∨ 128 ≤ b 0 ∨ (1 < len ∧ b 0 = 0 ∧ b 1 < 128) ∨ 9 < len ∨ (len = 9 ∧ b 0 ≠ 0)
def unsAns (b : Nat → Nat) (len : Nat) (max : Nat) : Option Nat := if unsBad b len then none else if max < uv b len then none else some (uv b len)
theorem uv_shift {b : Nat → Nat} (h0 : b 0 = 0) (m : Nat) : uv (fun j => b (j + 1)) m = uv b (m + 1) := by
  induction m with
  | zero => simp [uv, h0]
  | succ m ih => rw [uv, ih]; rfl
theorem sv_neg {b : Nat → Nat} (hb : ∀ j, b j < 256) (m : Nat) : sv b (m + 1) < 0 ↔ 128 ≤ b 0 := by
  have h := uv_lt hb (m + 1)
  unfold sv
  split <;> omega
/-- parseInteger's verdict within parseUnsigned. -/
theorem ans_uns {b : Nat → Nat} (hb : ∀ j, b j < 256) {len : Nat} (hn : ¬ (len = 9 ∧ b 0 = 0 ∧ 128 ≤ b 1)) : (intAns b len 0 9223372036854775807).isSome = decide (¬ unsBad b len) ∧ (¬ unsBad b len → len ≤ 8) := by
  rcases Nat.eq_zero_or_pos len with rfl | hp
  · have h1 : intBad b 0 := .inl rfl
    have h2 : unsBad b 0 := .inl rfl
    simp [intAns, h1, h2]
  · obtain ⟨m, rfl⟩ : ∃ m, len = m + 1 := ⟨len - 1, by omega⟩
    have hneg := sv_neg hb m
    have hbd := sv_bound hb m
    by_cases h8 : m + 1 ≤ 8
    · have hp : 256 ^ m ≤ 256 ^ 7 := Nat.pow_le_pow_right (by decide) (by omega)
      refine ⟨?_, fun _ => h8⟩
      by_cases hu : unsBad b (m + 1)
      · have : intAns b (m + 1) 0 9223372036854775807 = none := by
          unfold intAns
          split
          · rfl
          · rename_i hi
            rw [if_pos]
            left
            rw [hneg]
            rcases hu with h | h | ⟨h1, h2, h3⟩ | h | h
            · omega
            · exact h
            · exact absurd (.inr (.inr ⟨h1, .inl ⟨h2, h3⟩⟩)) hi
            · omega
            · omega
        rw [this]
        simp [hu]
      · have hi : ¬ intBad b (m + 1) := by
          rintro (h | h | ⟨h1, ⟨h2, h3⟩ | ⟨h2, h3⟩⟩)
          · omega
          · omega
          · exact hu (.inr (.inr (.inl ⟨h1, h2, h3⟩)))
          · exact hu (.inr (.inl (by omega)))
        have : intAns b (m + 1) 0 9223372036854775807 = some (sv b (m + 1)) := by
          unfold intAns
          rw [if_neg hi, if_neg]
          rintro (h | h)
          · exact hu (.inr (.inl (hneg.1 h)))
          · omega
        rw [this]
        simp [hu]
    · have hi : intBad b (m + 1) := .inr (.inl (by omega))
      have hu : unsBad b (m + 1) := by
        by_cases h9 : m + 1 = 9
        · by_cases h0 : b 0 = 0
          · exact .inr (.inr (.inl ⟨by omega, h0, Nat.lt_of_not_le (fun h => hn ⟨h9, h0, h⟩)⟩))
          · exact .inr (.inr (.inr (.inr ⟨h9, h0⟩)))
        · exact .inr (.inr (.inr (.inl (by omega))))
      simp [intAns, hi, hu]

theorem hide {p : Prop} (h : p) : Hid p := h
theorem drewN_add (w : World) (m n : Nat) : (w.drewN m).drewN n = w.drewN (m + n) := by simp [World.drewN, Nat.add_assoc]

def errN (E : Value) (o : Option Nat) : Value := if o.isSome then .nilIface else E
theorem u64_shl8w (u : Nat) (b : Nat) (hu : u < 72057594037927936) (hb : b < 256) : bits .or .u64 (IntKind.u64.wrap ((u : Int) * 256)) (IntKind.u64.wrap (b : Int)) = ((u * 256 + b : Nat) : Int) := by
  have e : IntKind.u64.wrap ((u : Int) * 256) = (u : Int) * 256 := by simp [IntKind.wrap, IntKind.bits, IntKind.signed]; omega
  rw [e]
  exact u64_shl8 u b hu hb

set_option maxHeartbeats 4000000 in
theorem puns_nine (g off cap : Nat) (b : Nat → Nat) (max : Nat) (E : Value) (w : World) (hb : ∀ j, b j < 256) (hcap : 9 ≤ cap) (hcell0 : ∀ j, j < 9 → w.cell? ⟨g, off + j, none⟩ = some (.int .u8 (b j : Nat))) (hE : w.cell? ⟨0, 0, none⟩ = some E) (h0 : b 0 = 0) (h1 : 128 ≤ b 1) :
    Calls Ybaf.prog 18 #[.slice (some ⟨g, off, none⟩) 9 cap, .int .u64 (max : Int)] w fun e w' => e = .returned (.tuple #[.int .u64 (((unsAns b 9 max).getD 0 : Nat) : Int), errN E (unsAns b 9 max)]) ∧ ∃ n, w' = w.drewN n := by
  have c0 : w.cell? ⟨g, off, none⟩ = some (.int .u8 0) := by have := hcell0 0 (by omega); rw [h0] at this; exact this
  have c1 := hcell0 1 (by omega)
  have e1' : decide ((128 : Int) ≤ ((b 1 : Nat) : Int)) = true := by simp; omega
  have hc1 : ¬ cap = 1 := by omega
  have hcell : ∀ j, j < 8 → w.cell? ⟨g, off + 1 + j, none⟩ = some (.int .u8 (b (j + 1) : Nat)) := fun j hj => by
    have := hcell0 (j + 1) (by omega)
    rwa [show off + (j + 1) = off + 1 + j by omega] at this
  have hbad : ¬ unsBad b 9 := by
    rintro (h | h | h | h | h) <;> omega
  have HS := hide (uv_shift h0 8)
  go_enter Ybaf.func18, Ybaf.ntmps18
  go_wp2
  clear c0 c1 e1'
  go_loop [8, 38] (fun u i => ∃ j : Nat, j ≤ 8 ∧ i = .int .i64 j ∧ u = .int .u64 (uv (fun j => b (j + 1)) j : Nat)) (fun _ i => 8 - (intOf i).toNat)
  case atStart => exact ⟨0, Nat.zero_le _, rfl, rfl⟩
  case round =>
    obtain ⟨j, hj, rfl, rfl⟩ := hrel
    by_cases hlt : j < 8
    · have hc := hcell j hlt
      have hu := uv_lt (b := (fun j => b (j + 1))) (fun j => hb _) j
      have hp : 256 ^ j ≤ 256 ^ 7 := Nat.pow_le_pow_right (by decide) (by omega)
      have hor := u64_shl8w (uv (fun j => b (j + 1)) j) (b (j + 1)) (by omega) (hb _)
      clear hu hp
      go_wp2
      exact ⟨⟨j + 1, by omega, by simp, by simp [uv]⟩, by simp [intOf]; omega⟩
    · obtain rfl : j = 8 := by omega
      generalize hU : uv (fun j => b (j + 1)) 8 = U
      have HU := hide hU
      clear hU
      by_cases hmx : max < U
      · have hans : unsAns b 9 max = none := by unfold unsAns; rw [if_neg hbad, if_pos (by rw [← HS.out, HU.out]; exact hmx)]
        have hmx' : (max : Int) < (U : Int) := by omega
        go_wp2
        go_quiet (fail)
        go_wp2
        go_ret2
        simp only [hans]
        exact ⟨rfl, _, rfl⟩
      · have hans : unsAns b 9 max = some U := by unfold unsAns; rw [if_neg hbad, if_neg (by rw [← HS.out, HU.out]; exact hmx), ← HS.out, HU.out]
        have hmx' : ¬ (max : Int) < (U : Int) := by omega
        go_wp2
        go_ret2
        exact ⟨rfl, 0, rfl⟩

set_option maxHeartbeats 4000000 in
theorem puns_bad (a : Option Addr) (len cap : Nat) (b : Nat → Nat) (max : Nat) (ea : Addr) (w : World) (h : IsBytes w a len cap b) (hE : w.cell? ⟨0, 0, none⟩ = some (.iface 72 (.pointer (some ea)))) (hn : ¬ (len = 9 ∧ b 0 = 0 ∧ 128 ≤ b 1)) (hu : unsBad b len) :
    Calls Ybaf.prog 18 #[.slice a len cap, .int .u64 (max : Int)] w fun e w' => e = .returned (.tuple #[.int .u64 0, .iface 72 (.pointer (some ea))]) ∧ ∃ n, w' = w.drewN n := by
  have hcall0 := pint_any a len cap b 0 9223372036854775807 _ w h hE
  have hnone : intAns b len 0 9223372036854775807 = none := by
    have := (ans_uns h.2.2.1 hn).1
    simp only [hu, not_true, decide_false] at this
    simpa using this
  rw [hnone] at hcall0
  have hcall := hide hcall0
  clear hcall0 hnone
  obtain ⟨-, -, hb, hc⟩ := h
  by_cases h9 : len = 9
  · subst h9
    obtain ⟨g, off, rfl, hcell⟩ := hc (by omega)
    have c0 : w.cell? ⟨g, off, none⟩ = some (.int .u8 (b 0 : Nat)) := hcell 0 (by omega)
    have c1 := hcell 1 (by omega)
    by_cases h0 : b 0 = 0
    · have e0' : (((b 0 : Nat) : Int) == 0) = true := by simp; omega
      have e1 : ¬ 128 ≤ b 1 := fun h => hn ⟨rfl, h0, h⟩
      have e1' : decide ((128 : Int) ≤ ((b 1 : Nat) : Int)) = false := by simp; omega
      clear hn hu
      go_enter Ybaf.func18, Ybaf.ntmps18
      go_wp2_with (go_at_call 16; refine hcall.out.mono ?_; rintro e w' ⟨rfl, m, rfl⟩; dsimp only [errOr, Option.getD, Option.isSome])
      go_ret2
      exact ⟨rfl, _, rfl⟩
    · have e0' : (((b 0 : Nat) : Int) == 0) = false := by rw [beq_eq_false_iff_ne]; omega
      clear hn hu
      go_enter Ybaf.func18, Ybaf.ntmps18
      go_wp2_with (go_at_call 16; refine hcall.out.mono ?_; rintro e w' ⟨rfl, m, rfl⟩; dsimp only [errOr, Option.getD, Option.isSome])
      go_ret2
      exact ⟨rfl, _, rfl⟩
  · have e9 : ((len : Int) == 9) = false := by rw [beq_eq_false_iff_ne]; omega
    clear hn hu
    go_enter Ybaf.func18, Ybaf.ntmps18
    go_wp2_with (go_at_call 16; refine hcall.out.mono ?_; rintro e w' ⟨rfl, m, rfl⟩; dsimp only [errOr, Option.getD, Option.isSome])
    go_ret2
    exact ⟨rfl, _, rfl⟩

set_option maxHeartbeats 4000000 in
theorem puns_ok (g off len cap : Nat) (b : Nat → Nat) (max : Nat) (ea : Addr) (w : World) (h : IsBytes w (some ⟨g, off, none⟩) len cap b) (hcell : ∀ j, j < len → w.cell? ⟨g, off + j, none⟩ = some (.int .u8 (b j : Nat))) (hE : w.cell? ⟨0, 0, none⟩ = some (.iface 72 (.pointer (some ea)))) (hn : ¬ (len = 9 ∧ b 0 = 0 ∧ 128 ≤ b 1)) (hbad : ¬ unsBad b len) :
    Calls Ybaf.prog 18 #[.slice (some ⟨g, off, none⟩) len cap, .int .u64 (max : Int)] w fun e w' => e = .returned (.tuple #[.int .u64 (((unsAns b len max).getD 0 : Nat) : Int), errN (.iface 72 (.pointer (some ea))) (unsAns b len max)]) ∧ ∃ n, w' = w.drewN n := by
  have hcall0 := pint_any _ len cap b 0 9223372036854775807 _ w h hE
  have hb := h.2.2.1
  obtain ⟨hs, h8'⟩ := ans_uns hb hn
  have h8 := h8' hbad
  rw [decide_eq_true hbad] at hs
  obtain ⟨z, hz⟩ := Option.isSome_iff_exists.1 hs
  rw [hz] at hcall0
  have hcall := hide hcall0
  have e9 : ((len : Int) == 9) = false := by rw [beq_eq_false_iff_ne]; omega
  clear hcall0 hn hs h8' hz h
  go_enter Ybaf.func18, Ybaf.ntmps18
  go_wp2_with (go_at_call 16; refine hcall.out.mono ?_; rintro e w' ⟨rfl, m, rfl⟩; dsimp only [errOr, Option.getD, Option.isSome])
  go_loop [8, 38] (fun u i => ∃ j : Nat, j ≤ len ∧ i = .int .i64 j ∧ u = .int .u64 (uv b j : Nat)) (fun _ i => len - (intOf i).toNat)
  case atStart => exact ⟨0, Nat.zero_le _, rfl, rfl⟩
  case round =>
    obtain ⟨j, hj, rfl, rfl⟩ := hrel
    by_cases hlt : j < len
    · have hc := hcell j hlt
      have hu := uv_lt (b := b) (fun j => hb _) j
      have hp : 256 ^ j ≤ 256 ^ 7 := Nat.pow_le_pow_right (by decide) (by omega)
      have hor := u64_shl8w (uv b j) (b j) (by omega) (hb _)
      clear hu hp
      go_wp2
      exact ⟨⟨j + 1, by omega, by simp, by simp [uv]⟩, by simp [intOf]; omega⟩
    · obtain rfl : j = len := by omega
      generalize hU : uv b j = U
      have HU := hide hU
      clear hU
      by_cases hmx : max < U
      · have hans : unsAns b j max = none := by unfold unsAns; rw [if_neg hbad, if_pos (by rw [HU.out]; exact hmx)]
        have hmx' : (max : Int) < (U : Int) := by omega
        go_wp2
        go_quiet (fail)
        go_wp2
        go_ret2
        simp only [hans]
        exact ⟨rfl, m + nq, by rw [drewN_add]⟩
      · have hans : unsAns b j max = some U := by unfold unsAns; rw [if_neg hbad, if_neg (by rw [HU.out]; exact hmx), HU.out]
        have hmx' : ¬ (max : Int) < (U : Int) := by omega
        go_wp2
        go_ret2
        exact ⟨rfl, m, rfl⟩

/-- parseUnsigned. -/
theorem puns_any (a : Option Addr) (len cap : Nat) (b : Nat → Nat) (max : Nat) (ea : Addr) (w : World) (h : IsBytes w a len cap b) (hE : w.cell? ⟨0, 0, none⟩ = some (.iface 72 (.pointer (some ea)))) :
    Calls Ybaf.prog 18 #[.slice a len cap, .int .u64 (max : Int)] w fun e w' => e = .returned (.tuple #[.int .u64 (((unsAns b len max).getD 0 : Nat) : Int), errN (.iface 72 (.pointer (some ea))) (unsAns b len max)]) ∧ ∃ n, w' = w.drewN n := by
  by_cases h9 : len = 9 ∧ b 0 = 0 ∧ 128 ≤ b 1
  · obtain ⟨rfl, h0, h1⟩ := h9
    obtain ⟨hlc, hcm, hb, hc⟩ := h
    obtain ⟨g, off, rfl, hcell⟩ := hc (by omega)
    exact puns_nine g off cap b max _ w hb hlc hcell hE h0 h1
  · by_cases hu : unsBad b len
    · have hans : unsAns b len max = none := by unfold unsAns; rw [if_pos hu]
      rw [hans]
      exact puns_bad a len cap b max ea w h hE h9 hu
    · have hp : 0 < len := Nat.pos_of_ne_zero (fun e => hu (.inl e))
      obtain ⟨g, off, rfl, hcell⟩ := h.2.2.2 hp
      exact puns_ok g off len cap b max ea w h hcell hE h9 hu

set_option maxHeartbeats 1000000 in
set_option maxRecDepth 100000 in
/-- zzs5991bunsigned. -/
theorem buns_bad (a : Option Addr) (len cap : Nat) (b : Nat → Nat) (max : Nat) (w : World) (h : IsBytes w a len cap b) (hu : unsBad b len) :
    Calls Ybaf.prog 11 #[.slice a len cap, .int .u64 (max : Int)] w fun e w' => e = .returned (.tuple #[.int .u64 0, .bool false]) ∧ w' = w := by
  obtain ⟨hlc, hcm, hb, hc⟩ := h
  by_cases hz : len = 0
  · subst hz
    clear hu hc
    go_enter Ybaf.func11, Ybaf.ntmps11
    go_wp2
    go_ret2
    exact ⟨rfl, rfl⟩
  · have hz' : ((len : Int) == 0) = false := by rw [beq_eq_false_iff_ne]; omega
    obtain ⟨g, off, rfl, hcell⟩ := hc (by omega)
    have c0 : w.cell? ⟨g, off, none⟩ = some (.int .u8 (b 0 : Nat)) := hcell 0 (by omega)
    by_cases h128 : 128 ≤ b 0
    · have h128' : decide ((128 : Int) ≤ ((b 0 : Nat) : Int)) = true := by simp; omega
      clear hu hc
      go_enter Ybaf.func11, Ybaf.ntmps11
      go_wp2
      go_ret2
      exact ⟨rfl, rfl⟩
    · have h128' : decide ((128 : Int) ≤ ((b 0 : Nat) : Int)) = false := by simp; omega
      by_cases h1 : len = 1
      · exfalso
        rcases hu with h | h | h | h | h <;> omega
      · have h1' : decide ((1 : Int) < (len : Int)) = true := by simp; omega
        have hc1 : ¬ cap = 1 := by omega
        have c1 := hcell 1 (by omega)
        by_cases h0 : b 0 = 0
        · rw [h0] at c0
          clear h128' h128
          by_cases e1 : b 1 < 128
          · have e1' : ((b 1 : Nat) : Int) < 128 := by omega
            clear hu hc h0 e1
            go_enter Ybaf.func11, Ybaf.ntmps11
            go_wp2
            go_ret2
            exact ⟨rfl, rfl⟩
          · have e1' : ¬ ((b 1 : Nat) : Int) < 128 := by omega
            have h9 : 9 < len := by rcases hu with h | h | h | h | h <;> omega
            have h9' : (8 : Int) < (len : Int) - 1 := by omega
            clear hu hc h0 e1
            go_enter Ybaf.func11, Ybaf.ntmps11
            go_wp2
            go_ret2
            exact ⟨rfl, rfl⟩
        · have e0' : (((b 0 : Nat) : Int) == 0) = false := by rw [beq_eq_false_iff_ne]; omega
          have h9 : 8 < len := by rcases hu with h | h | h | h | h <;> omega
          have h9' : (8 : Int) < (len : Int) := by omega
          clear hu hc
          go_enter Ybaf.func11, Ybaf.ntmps11
          go_wp2
          go_ret2
          exact ⟨rfl, rfl⟩

set_option maxHeartbeats 4000000 in
set_option maxRecDepth 100000 in
theorem buns_ok (g off len cap : Nat) (b : Nat → Nat) (max : Nat) (w : World) (hb : ∀ j, b j < 256) (hlc : len ≤ cap) (hcell : ∀ j, j < len → w.cell? ⟨g, off + j, none⟩ = some (.int .u8 (b j : Nat))) (hbad : ¬ unsBad b len) :
    Calls Ybaf.prog 11 #[.slice (some ⟨g, off, none⟩) len cap, .int .u64 (max : Int)] w fun e w' => e = .returned (.tuple #[.int .u64 (((unsAns b len max).getD 0 : Nat) : Int), .bool (unsAns b len max).isSome]) ∧ w' = w := by
  have hp : 0 < len := Nat.pos_of_ne_zero (fun e => hbad (.inl e))
  have hz' : ((len : Int) == 0) = false := by rw [beq_eq_false_iff_ne]; omega
  have c0 : w.cell? ⟨g, off, none⟩ = some (.int .u8 (b 0 : Nat)) := hcell 0 (by omega)
  have h128 : ¬ 128 ≤ b 0 := fun h => hbad (.inr (.inl h))
  have h128' : decide ((128 : Int) ≤ ((b 0 : Nat) : Int)) = false := by simp; omega
  by_cases h1 : len = 1
  · subst h1
    have h8 : 1 ≤ 8 := by omega
    go_enter Ybaf.func11, Ybaf.ntmps11
    go_wp2
    clear c0 h128 h128' hz'
    go_loop [7, 40] (fun u i => ∃ j : Nat, j ≤ 1 ∧ i = .int .i64 j ∧ u = .int .u64 (uv b j : Nat)) (fun _ i => 1 - (intOf i).toNat)
    case atStart => exact ⟨0, Nat.zero_le _, rfl, rfl⟩
    case round =>
      obtain ⟨j, hj, rfl, rfl⟩ := hrel
      by_cases hlt : j < 1
      · have hc := hcell j hlt
        have hu := uv_lt (b := b) (fun j => hb _) j
        have hp : 256 ^ j ≤ 256 ^ 7 := Nat.pow_le_pow_right (by decide) (by omega)
        have hor := u64_shl8w (uv b j) (b j) (by omega) (hb _)
        clear hu hp
        go_wp2
        exact ⟨⟨j + 1, by omega, by simp, by simp [uv]⟩, by simp [intOf]; omega⟩
      · obtain rfl : j = 1 := by omega
        generalize hU : uv b 1 = U
        have HU := hide hU
        clear hU
        by_cases hmx : max < U
        · have hans : unsAns b 1 max = none := by unfold unsAns; rw [if_neg hbad, if_pos (by rw [HU.out]; exact hmx)]
          have hmx' : (max : Int) < (U : Int) := by omega
          go_wp2
          go_ret2
          exact ⟨rfl, rfl⟩
        · have hans : unsAns b 1 max = some U := by unfold unsAns; rw [if_neg hbad, if_neg (by rw [HU.out]; exact hmx), HU.out]
          have hmx' : ¬ (max : Int) < (U : Int) := by omega
          go_wp2
          go_ret2
          exact ⟨rfl, rfl⟩
  · have h1' : decide ((1 : Int) < (len : Int)) = true := by simp; omega
    have hc1 : ¬ cap = 1 := by omega
    by_cases h0 : b 0 = 0
    · rw [h0] at c0
      clear h128'
      have c1 := hcell 1 (by omega)
      have e1 : ¬ b 1 < 128 := fun h => hbad (.inr (.inr (.inl ⟨by omega, h0, h⟩)))
      have e1' : ¬ ((b 1 : Nat) : Int) < 128 := by omega
      have h9 : len ≤ 9 := Nat.le_of_not_lt (fun h => hbad (.inr (.inr (.inr (.inl h)))))
      obtain ⟨l, rfl⟩ : ∃ l, len = l + 1 := ⟨len - 1, by omega⟩
      have h9' : ¬ (8 : Int) < (l : Int) := by omega
      have hcell1 : ∀ j, j < l → w.cell? ⟨g, off + 1 + j, none⟩ = some (.int .u8 (b (j + 1) : Nat)) := fun j hj => by
        have := hcell (j + 1) (by omega)
        rwa [show off + (j + 1) = off + 1 + j by omega] at this
      clear hcell
      have hcell := hcell1
      clear hcell1
      have HS := hide (uv_shift h0 l)
      clear h0 e1 h128
      go_enter Ybaf.func11, Ybaf.ntmps11
      go_wp2
      clear c0 c1 hz' e1' h9'
      go_loop [7, 40] (fun u i => ∃ j : Nat, j ≤ l ∧ i = .int .i64 j ∧ u = .int .u64 (uv (fun j => b (j + 1)) j : Nat)) (fun _ i => l - (intOf i).toNat)
      case atStart => exact ⟨0, Nat.zero_le _, rfl, rfl⟩
      case round =>
        obtain ⟨j, hj, rfl, rfl⟩ := hrel
        by_cases hlt : j < l
        · have hc := hcell j hlt
          have hu := uv_lt (b := (fun j => b (j + 1))) (fun j => hb _) j
          have hp : 256 ^ j ≤ 256 ^ 7 := Nat.pow_le_pow_right (by decide) (by omega)
          have hor := u64_shl8w (uv (fun j => b (j + 1)) j) (b (j + 1)) (by omega) (hb _)
          clear hu hp
          go_wp2
          exact ⟨⟨j + 1, by omega, by simp, by simp [uv]⟩, by simp [intOf]; omega⟩
        · obtain rfl : j = l := by omega
          generalize hU : uv (fun j => b (j + 1)) j = U
          have HU := hide hU
          clear hU
          by_cases hmx : max < U
          · have hans : unsAns b (j + 1) max = none := by unfold unsAns; rw [if_neg hbad, if_pos (by rw [← HS.out, HU.out]; exact hmx)]
            have hmx' : (max : Int) < (U : Int) := by omega
            go_wp2
            go_ret2
            exact ⟨rfl, rfl⟩
          · have hans : unsAns b (j + 1) max = some U := by unfold unsAns; rw [if_neg hbad, if_neg (by rw [← HS.out, HU.out]; exact hmx), ← HS.out, HU.out]
            have hmx' : ¬ (max : Int) < (U : Int) := by omega
            go_wp2
            go_ret2
            exact ⟨rfl, rfl⟩
    · have e0' : (((b 0 : Nat) : Int) == 0) = false := by rw [beq_eq_false_iff_ne]; omega
      have h8 : len ≤ 8 := Nat.le_of_not_lt (fun h => hbad (by
        by_cases h9 : len = 9
        · exact .inr (.inr (.inr (.inr ⟨h9, h0⟩)))
        · exact .inr (.inr (.inr (.inl (by omega))))))
      have h8' : ¬ (8 : Int) < (len : Int) := by omega
      go_enter Ybaf.func11, Ybaf.ntmps11
      go_wp2
      clear c0 h128 h128' hz' e0' h8' h0
      go_loop [7, 40] (fun u i => ∃ j : Nat, j ≤ len ∧ i = .int .i64 j ∧ u = .int .u64 (uv b j : Nat)) (fun _ i => len - (intOf i).toNat)
      case atStart => exact ⟨0, Nat.zero_le _, rfl, rfl⟩
      case round =>
        obtain ⟨j, hj, rfl, rfl⟩ := hrel
        by_cases hlt : j < len
        · have hc := hcell j hlt
          have hu := uv_lt (b := b) (fun j => hb _) j
          have hp : 256 ^ j ≤ 256 ^ 7 := Nat.pow_le_pow_right (by decide) (by omega)
          have hor := u64_shl8w (uv b j) (b j) (by omega) (hb _)
          clear hu hp
          go_wp2
          exact ⟨⟨j + 1, by omega, by simp, by simp [uv]⟩, by simp [intOf]; omega⟩
        · obtain rfl : j = len := by omega
          generalize hU : uv b j = U
          have HU := hide hU
          clear hU
          by_cases hmx : max < U
          · have hans : unsAns b j max = none := by unfold unsAns; rw [if_neg hbad, if_pos (by rw [HU.out]; exact hmx)]
            have hmx' : (max : Int) < (U : Int) := by omega
            go_wp2
            go_ret2
            exact ⟨rfl, rfl⟩
          · have hans : unsAns b j max = some U := by unfold unsAns; rw [if_neg hbad, if_neg (by rw [HU.out]; exact hmx), HU.out]
            have hmx' : ¬ (max : Int) < (U : Int) := by omega
            go_wp2
            go_ret2
            exact ⟨rfl, rfl⟩

theorem buns_any (a : Option Addr) (len cap : Nat) (b : Nat → Nat) (max : Nat) (w : World) (h : IsBytes w a len cap b) :
    Calls Ybaf.prog 11 #[.slice a len cap, .int .u64 (max : Int)] w fun e w' => e = .returned (.tuple #[.int .u64 (((unsAns b len max).getD 0 : Nat) : Int), .bool (unsAns b len max).isSome]) ∧ w' = w := by
  by_cases hu : unsBad b len
  · have hans : unsAns b len max = none := by unfold unsAns; rw [if_pos hu]
    rw [hans]
    exact buns_bad a len cap b max w h hu
  · have hp : 0 < len := Nat.pos_of_ne_zero (fun e => hu (.inl e))
    obtain ⟨hlc, hcm, hb, hc⟩ := h
    obtain ⟨g, off, rfl, hcell⟩ := hc hp
    exact buns_ok g off len cap b max w hb hlc hcell hu

/-- zzs5991bint. -/
theorem bint_any (a : Option Addr) (len cap : Nat) (b : Nat → Nat) (w : World) (h : IsBytes w a len cap b) :
    Calls Ybaf.prog 9 #[.slice a len cap] w fun e w' => e = .returned (.tuple #[.int .i64 ((intAns b len (-2147483648) 2147483647).getD 0), .bool (intAns b len (-2147483648) 2147483647).isSome]) ∧ w' = w := by
  obtain ⟨hlc, hcm, hb, hc⟩ := h
  by_cases hlen : len = 0 ∨ 8 < len
  · have hans : intAns b len (-2147483648) 2147483647 = none := by unfold intAns; rw [if_pos]; rcases hlen with h | h; exact .inl h; exact .inr (.inl h)
    rw [hans]
    exact bint_bad a len cap w (by omega) hlen
  · obtain ⟨g, off, rfl, hcell⟩ := hc (by omega)
    exact bint_pos g off len cap b w hb (by omega) (by omega) hcell
end Go.Proofs.YbulkdtayFmt
