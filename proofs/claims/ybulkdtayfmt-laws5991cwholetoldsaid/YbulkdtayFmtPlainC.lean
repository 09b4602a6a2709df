import Derived.Lib.ParseIntB
namespace Go.Proofs.YbulkdtayFmt
open Go

/-- The n bytes from place i on, as the shelf's list. -/
def bl (b : Nat → Nat) : Nat → Nat → List UInt8
  | _, 0 => []
  | i, n + 1 => UInt8.ofNat (b i) :: bl b (i + 1) n
/-- The digits from place i on, n of them, on top of acc, within lim. -/
def limB (lim : Nat) (b : Nat → Nat) : Nat → Nat → Nat → Option Nat
  | 0, _, acc => some acc
  | n + 1, i, acc => if 48 ≤ b i ∧ b i ≤ 57 then (if lim < acc * 10 + (b i - 48) then none else limB lim b n (i + 1) (acc * 10 + (b i - 48))) else none

theorem u8_nat {x : Nat} (h : x < 256) : (UInt8.ofNat x).toNat = x := by simp; omega

theorem parseM_ge (M : Nat) : ∀ (l : List UInt8) (acc u : Nat), Lib.parseUintM M acc l = .ok u → acc ≤ u
  | [], acc, u, h => by simp [Lib.parseUintM] at h; omega
  | c :: r, acc, u, h => by
    unfold Lib.parseUintM at h
    split at h
    · split at h
      · cases h
      · split at h
        · cases h
        · have := parseM_ge M r _ u h
          omega
    · cases h

/-- The law's digits are the library's digits, cut at lim. -/
theorem limB_iff (lim : Nat) (hl : lim < 18446744073709551616) {b : Nat → Nat} (hb : ∀ j, b j < 256) : ∀ (n i acc u : Nat), acc ≤ lim → (limB lim b n i acc = some u ↔ Lib.parseUintM 18446744073709551615 acc (bl b i n) = .ok u ∧ u ≤ lim)
  | 0, i, acc, u, ha => by
    simp [limB, bl, Lib.parseUintM]
    omega
  | n + 1, i, acc, u, ha => by
    unfold limB bl Lib.parseUintM
    rw [u8_nat (hb i)]
    by_cases hd : 48 ≤ b i ∧ b i ≤ 57
    · rw [if_pos hd, if_pos hd]
      by_cases hx : lim < acc * 10 + (b i - 48)
      · rw [if_pos hx]
        refine ⟨(fun h => by cases h), (fun hh => ?_)⟩
        obtain ⟨h, hu⟩ := hh
        split at h
        · cases h
        · split at h
          · cases h
          · have := parseM_ge _ _ _ _ h
            omega
      · rw [if_neg hx, if_neg (by omega), if_neg (by omega)]
        exact limB_iff lim hl hb n (i + 1) _ u (by omega)
    · rw [if_neg hd, if_neg hd]
      exact ⟨(fun h => by cases h), (fun hh => by cases hh.1)⟩

/-- What the law's own parser answers. -/
def cpar (b : Nat → Nat) (len : Nat) : Option Int :=
  if len = 0 then none
  else if b 0 = 45 then (if len = 1 then none else (limB 9223372036854775808 b (len - 1) 1 0).map fun (u : Nat) => -(u : Int))
  else if b 0 = 43 then (if len = 1 then none else (limB 9223372036854775807 b (len - 1) 1 0).map fun (u : Nat) => (u : Int))
  else (limB 9223372036854775807 b len 0 0).map fun (u : Nat) => (u : Int)

theorem bl_nil {b : Nat → Nat} {i n : Nat} : bl b i n = [] ↔ n = 0 := by cases n <;> simp [bl]

theorem cpar_iff {b : Nat → Nat} (hb : ∀ j, b j < 256) (len : Nat) (v : Int) : Lib.parseIntB 64 (bl b 0 len) = .ok v ↔ cpar b len = some v := by
  cases len with
  | zero => simp [bl, Lib.parseIntB, cpar]
  | succ n =>
    have e1 : bl b 0 (n + 1) = UInt8.ofNat (b 0) :: bl b 1 n := rfl
    rw [e1]
    unfold Lib.parseIntB cpar
    dsimp only
    rw [u8_nat (hb 0), if_neg (show ¬ n + 1 = 0 by omega)]
    simp only [Nat.add_sub_cancel]
    by_cases h45 : b 0 = 45
    · rw [if_pos h45, if_pos (Or.inr h45)]
      unfold Lib.parseUintB
      by_cases hn : n = 0
      · subst hn
        simp [bl]
      · rw [if_neg (by rw [bl_nil]; exact hn), if_neg (show ¬ n + 1 = 1 by omega)]
        have k := fun u => limB_iff 9223372036854775808 (by omega) hb n 1 0 u (by omega)
        have e2 : 2 ^ 64 - 1 = 18446744073709551615 := by decide
        have e3 : 2 ^ (64 - 1) = 9223372036854775808 := by decide
        rw [e2, e3]
        cases hp : Lib.parseUintM 18446744073709551615 0 (bl b 1 n) with
        | ok u =>
          have ku := k u
          rw [hp] at ku
          by_cases hu : u ≤ 9223372036854775808
          · rw [(ku.2 ⟨rfl, hu⟩)]
            have hx : ¬ 9223372036854775808 < u := by omega
            simp [h45, hx]
          · cases hq : limB 9223372036854775808 b n 1 0 with
            | none =>
              have hx : 9223372036854775808 < u := by omega
              simp [h45, hx]
            | some u' =>
              have := (k u').1 hq
              rw [hp] at this
              obtain ⟨h1, h2⟩ := this
              injection h1 with h1
              omega
        | _ =>
          cases hq : limB 9223372036854775808 b n 1 0 with
          | none => simp
          | some u' =>
            have := (k u').1 hq
            rw [hp] at this
            cases this.1
    · rw [if_neg h45]
      have e2 : 2 ^ 64 - 1 = 18446744073709551615 := by decide
      have e3 : 2 ^ (64 - 1) = 9223372036854775808 := by decide
      by_cases h43 : b 0 = 43
      · rw [if_pos h43, if_pos (Or.inl h43)]
        unfold Lib.parseUintB
        by_cases hn : n = 0
        · subst hn
          simp [bl]
        · rw [if_neg (by rw [bl_nil]; exact hn), if_neg (show ¬ n + 1 = 1 by omega)]
          have k := fun u => limB_iff 9223372036854775807 (by omega) hb n 1 0 u (by omega)
          rw [e2, e3]
          cases hp : Lib.parseUintM 18446744073709551615 0 (bl b 1 n) with
          | ok u =>
            have ku := k u
            rw [hp] at ku
            by_cases hu : u ≤ 9223372036854775807
            · rw [(ku.2 ⟨rfl, hu⟩)]
              have hx : ¬ 9223372036854775808 ≤ u := by omega
              simp [h45, hx]
            · cases hq : limB 9223372036854775807 b n 1 0 with
              | none =>
                have hx : 9223372036854775808 ≤ u := by omega
                simp [h45, hx]
              | some u' =>
                have := (k u').1 hq
                rw [hp] at this
                obtain ⟨h1, h2⟩ := this
                injection h1 with h1
                omega
          | _ =>
            cases hq : limB 9223372036854775807 b n 1 0 with
            | none => simp
            | some u' =>
              have := (k u').1 hq
              rw [hp] at this
              cases this.1
      · rw [if_neg h43, if_neg (by rintro (h | h) <;> omega)]
        unfold Lib.parseUintB
        rw [if_neg (by simp)]
        have k := fun u => limB_iff 9223372036854775807 (by omega) hb (n + 1) 0 0 u (by omega)
        rw [e1] at k
        rw [e2, e3]
        cases hp : Lib.parseUintM 18446744073709551615 0 (UInt8.ofNat (b 0) :: bl b 1 n) with
        | ok u =>
          have ku := k u
          rw [hp] at ku
          by_cases hu : u ≤ 9223372036854775807
          · rw [(ku.2 ⟨rfl, hu⟩)]
            have hx : ¬ 9223372036854775808 ≤ u := by omega
            simp [h45, hx]
          · cases hq : limB 9223372036854775807 b (n + 1) 0 0 with
            | none =>
              have hx : 9223372036854775808 ≤ u := by omega
              simp [h45, hx]
            | some u' =>
              have := (k u').1 hq
              rw [hp] at this
              obtain ⟨h1, h2⟩ := this
              injection h1 with h1
              omega
        | _ =>
          cases hq : limB 9223372036854775807 b (n + 1) 0 0 with
          | none => simp
          | some u' =>
            have := (k u').1 hq
            rw [hp] at this
            cases this.1
end Go.Proofs.YbulkdtayFmt
