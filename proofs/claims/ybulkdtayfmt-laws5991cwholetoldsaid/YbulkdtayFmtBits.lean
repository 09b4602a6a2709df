import Derived.Test.YbulkdtayFmtRows
import Derived.WalkKit
import Derived.Lib.VarintBits
namespace Go.Proofs.YbulkdtayFmt
open Go.RowKit

/-- The two 64-bit kinds: 'x<<s | b' where b fits in the low bits. -/
theorem or_nat (s X b : Nat) (hX : X % 2 ^ s = 0) (hb : b < 2 ^ s) : X ||| b = X + b := by
  obtain ⟨m, rfl⟩ : ∃ m, X = m <<< s := ⟨X / 2 ^ s, by rw [Nat.shiftLeft_eq]; exact (Nat.div_mul_cancel (Nat.dvd_of_mod_eq_zero hX)).symm⟩
  exact (Nat.shiftLeft_add_eq_or_of_lt hb m).symm

theorem or_u64 (s : Nat) (X b : Int) (h0 : 0 ≤ X) (h1 : X < 18446744073709551616) (hX : X % 2 ^ s = 0) (hb0 : 0 ≤ b) (hb : b < 2 ^ s) (hs : s ≤ 8) : bits .or .u64 X b = X + b := by
  obtain ⟨x, rfl⟩ := Int.eq_ofNat_of_zero_le h0
  obtain ⟨y, rfl⟩ := Int.eq_ofNat_of_zero_le hb0
  have hx : x % 2 ^ s = 0 := by exact_mod_cast hX
  have hy : y < 2 ^ s := by exact_mod_cast hb
  have h256 : 2 ^ s ≤ 2 ^ 8 := Nat.pow_le_pow_right (by decide) hs
  have e : bits .or .u64 (x : Int) (y : Int) = IntKind.u64.wrap (((x % 18446744073709551616) ||| (y % 18446744073709551616) : Nat) : Int) := by
    unfold bits
    simp [IntKind.bits]
    rfl
  rw [e, Nat.mod_eq_of_lt (by omega), Nat.mod_eq_of_lt (by omega), or_nat s x y hx hy]
  have hlt : x + y < 18446744073709551616 := by
    have := Nat.or_lt_two_pow (x := x) (y := y) (n := 64) (by omega) (by omega)
    rw [or_nat s x y hx hy] at this
    omega
  simp [IntKind.wrap, IntKind.bits, IntKind.signed]
  omega

theorem or_i64 (X b : Int) (h0 : -9223372036854775808 ≤ X) (h1 : X < 9223372036854775808) (hX : X % 256 = 0) (hb0 : 0 ≤ b) (hb : b < 256) : bits .or .i64 X b = X + b := by
  obtain ⟨y, rfl⟩ := Int.eq_ofNat_of_zero_le hb0
  obtain ⟨x, hx⟩ := Int.eq_ofNat_of_zero_le (show 0 ≤ X % 18446744073709551616 by omega)
  have e : bits .or .i64 X (y : Int) = IntKind.i64.wrap ((x ||| (y % 18446744073709551616) : Nat) : Int) := by
    have e1 : (BitVec.ofInt 64 X).toNat = x := by rw [BitVec.toNat_ofInt]; show (X % 18446744073709551616).toNat = x; omega
    have e2 : (BitVec.ofInt 64 (y : Int)).toNat = y % 18446744073709551616 := by rw [BitVec.toNat_ofInt]; show ((y : Int) % 18446744073709551616).toNat = _; omega
    have e3 : bits .or .i64 X (y : Int) = IntKind.i64.wrap ((BitVec.ofInt 64 X ||| BitVec.ofInt 64 (y : Int)).toNat : Int) := rfl
    rw [e3, BitVec.toNat_or, e1, e2]
  rw [e, Nat.mod_eq_of_lt (by omega), or_nat 8 x y (by omega) (by omega)]
  simp [IntKind.wrap, IntKind.bits, IntKind.signed]
  split <;> omega

theorem and128 (b : Nat) (h : b < 256) : bits .and .u8 (b : Int) 128 = if b < 128 then 0 else 128 := by
  have : ∀ b : Fin 256, bits .and .u8 ((b : Nat) : Int) 128 = if (b : Nat) < 128 then 0 else 128 := by decide +kernel
  exact this ⟨b, h⟩
theorem and127 (b : Nat) (h : b < 256) : bits .and .u8 (b : Int) 127 = ((b % 128 : Nat) : Int) := by
  have : ∀ b : Fin 256, bits .and .u8 ((b : Nat) : Int) 127 = (((b : Nat) % 128 : Nat) : Int) := by decide +kernel
  exact this ⟨b, h⟩

/-! The numbers' plain functions: bytes are a function of the index. -/
def uv (b : Nat → Nat) : Nat → Nat
  | 0 => 0
  | m + 1 => uv b m * 256 + b m
def sv (b : Nat → Nat) (m : Nat) : Int := if b 0 < 128 then (uv b m : Int) else (uv b m : Int) - (256 ^ m : Nat)
theorem uv_lt {b : Nat → Nat} (hb : ∀ j, b j < 256) (m : Nat) : uv b m < 256 ^ m := by
  induction m with
  | zero => simp [uv]
  | succ m ih => have := hb m; simp only [uv, Nat.pow_succ]; omega
theorem sv_succ {b : Nat → Nat} (m : Nat) : sv b (m + 1) = sv b m * 256 + (b m : Int) := by
  have e : uv b (m + 1) = uv b m * 256 + b m := rfl
  have e2 : (256 ^ (m + 1) : Nat) = 256 ^ m * 256 := Nat.pow_succ ..
  unfold sv
  rw [e, e2]
  generalize 256 ^ m = M
  split <;> omega
theorem uv_head {b : Nat → Nat} (hb : ∀ j, b j < 256) (m : Nat) : b 0 * 256 ^ m ≤ uv b (m + 1) ∧ uv b (m + 1) < (b 0 + 1) * 256 ^ m := by
  induction m with
  | zero => simp [uv]
  | succ m ih =>
    have h := hb (m + 1)
    have e : uv b (m + 1 + 1) = uv b (m + 1) * 256 + b (m + 1) := rfl
    rw [e, Nat.pow_succ, ← Nat.mul_assoc, ← Nat.mul_assoc]
    omega
theorem sv_bound {b : Nat → Nat} (hb : ∀ j, b j < 256) (m : Nat) : -(128 * 256 ^ m : Nat) ≤ sv b (m + 1) ∧ sv b (m + 1) < (128 * 256 ^ m : Nat) := by
  obtain ⟨h1, h2⟩ := uv_head hb m
  have h0 := hb 0
  have hp : 0 < 256 ^ m := Nat.pow_pos (by decide)
  have e : (256 ^ (m + 1) : Nat) = 256 * 256 ^ m := by rw [Nat.pow_succ]; omega
  unfold sv
  split
  · have : (b 0 + 1) * 256 ^ m ≤ 128 * 256 ^ m := Nat.mul_le_mul_right _ (by omega)
    omega
  · have : 128 * 256 ^ m ≤ b 0 * 256 ^ m := Nat.mul_le_mul_right _ (by omega)
    have : (b 0 + 1) * 256 ^ m ≤ 256 * 256 ^ m := Nat.mul_le_mul_right _ (by omega)
    rw [e]
    omega
/-- X.690's redundant leading octet. -/
abbrev redundant (b : Nat → Nat) (len : Nat) : Prop := 1 < len ∧ ((b 0 = 0 ∧ b 1 < 128) ∨ (b 0 = 255 ∧ 128 ≤ b 1))
abbrev intBad (b : Nat → Nat) (len : Nat) : Prop := len = 0 ∨ 8 < len ∨ redundant b len
abbrev inRange (k : Nat) (n : Int) : Prop := -(128 * 256 ^ (k - 1) : Nat) ≤ n ∧ n < (128 * 256 ^ (k - 1) : Nat)
theorem inRange_mono {k l : Nat} (h : k ≤ l) {n : Int} (hn : inRange k n) : inRange l n := by
  have : 256 ^ (k - 1) ≤ 256 ^ (l - 1) := Nat.pow_le_pow_right (by decide) (by omega)
  unfold inRange at *
  omega
theorem uv_two {b : Nat → Nat} (hb : ∀ j, b j < 256) (m : Nat) : (b 0 * 256 + b 1) * 256 ^ m ≤ uv b (m + 2) ∧ uv b (m + 2) < (b 0 * 256 + b 1 + 1) * 256 ^ m := by
  induction m with
  | zero => simp [uv]
  | succ m ih =>
    have h := hb (m + 2)
    have e : uv b (m + 1 + 2) = uv b (m + 2) * 256 + b (m + 2) := rfl
    rw [e, Nat.pow_succ, ← Nat.mul_assoc, ← Nat.mul_assoc]
    omega
theorem redundant_iff {b : Nat → Nat} (hb : ∀ j, b j < 256) (m : Nat) : redundant b (m + 2) ↔ inRange (m + 1) (sv b (m + 2)) := by
  obtain ⟨h1, h2⟩ := uv_two hb m
  have h0 := hb 0
  have h01 := hb 1
  have e : (256 ^ (m + 2) : Nat) = 65536 * 256 ^ m := by rw [Nat.pow_add]; omega
  have hp : 0 < 256 ^ m := Nat.pow_pos (by decide)
  unfold redundant inRange sv
  rw [e]
  simp only [Nat.add_sub_cancel]
  generalize 256 ^ m = M at *
  generalize uv b (m + 2) = u at *
  generalize b 0 = x at *
  generalize b 1 = y at *
  have lo : ∀ c, c ≤ x * 256 + y → c * M ≤ u := fun c hc => Nat.le_trans (Nat.mul_le_mul_right _ hc) h1
  have hi : ∀ c, x * 256 + y + 1 ≤ c → u < c * M := fun c hc => Nat.lt_of_lt_of_le h2 (Nat.mul_le_mul_right _ hc)
  constructor
  · rintro ⟨-, ⟨rfl, hy⟩ | ⟨rfl, hy⟩⟩
    · have := hi 128 (by omega)
      simp
      omega
    · have := lo 65408 (by omega)
      have := hi 65536 (by omega)
      simp
      omega
  · intro hr
    refine ⟨by omega, ?_⟩
    by_cases hx : x < 128
    · simp only [hx, if_true] at hr
      left
      rcases Nat.lt_or_ge (x * 256 + y) 128 with h | h
      · omega
      · have := lo 128 h; omega
    · simp only [hx, if_false] at hr
      right
      rcases Nat.lt_or_ge (x * 256 + y) 65408 with h | h
      · have := hi 65408 h; omega
      · omega
/-- The Go text's least length. -/
theorem kmin_iff {b : Nat → Nat} (hb : ∀ j, b j < 256) {len k : Nat} (h1 : 0 < len) (h8 : len ≤ 8) (hk1 : 1 ≤ k) (hk8 : k ≤ 8) (hlow : ∀ j, 1 ≤ j → j < k → ¬ inRange j (sv b len)) (hin : k = 8 ∨ inRange k (sv b len)) : k = len ↔ ¬ redundant b len := by
  have hlen : inRange len (sv b len) := by
    obtain ⟨m, rfl⟩ : ∃ m, len = m + 1 := ⟨len - 1, by omega⟩
    exact sv_bound hb m
  have hkl : k ≤ len := by
    rcases Nat.lt_or_ge len k with h | h
    · exact absurd hlen (hlow len h1 h)
    · exact h
  constructor
  · rintro rfl hr
    obtain ⟨m, rfl⟩ : ∃ m, k = m + 2 := ⟨k - 2, by have := hr.1; omega⟩
    exact hlow (m + 1) (by omega) (by omega) ((redundant_iff hb m).1 hr)
  · intro hr
    rcases Nat.lt_or_ge k len with h | h
    · exfalso
      obtain ⟨m, rfl⟩ : ∃ m, len = m + 2 := ⟨len - 2, by omega⟩
      refine hr ((redundant_iff hb m).2 (inRange_mono (k := k) (by omega) ?_))
      rcases hin with h' | h'
      · omega
      · exact h'
    · omega
/-- 'int64(u << sh) >> sh'. -/
theorem sv_shifts {b : Nat → Nat} (hb : ∀ j, b j < 256) {len : Nat} (h1 : 0 < len) (h8 : len ≤ 8) : (IntKind.i64.wrap (IntKind.u64.wrap ((uv b len : Int) * 2 ^ (64 - 8 * len)))).fdiv (2 ^ (64 - 8 * len)) = sv b len := by
  have hu := uv_lt hb len
  obtain ⟨m, rfl⟩ : ∃ m, len = m + 1 := ⟨len - 1, by omega⟩
  obtain ⟨h2, h3⟩ := uv_head hb m
  have h0 := hb 0
  unfold sv
  generalize uv b (m + 1) = u at *
  generalize b 0 = x at *
  have hm : m = 0 ∨ m = 1 ∨ m = 2 ∨ m = 3 ∨ m = 4 ∨ m = 5 ∨ m = 6 ∨ m = 7 := by omega
  rw [Int.fdiv_eq_ediv_of_nonneg _ (Int.le_of_lt (Int.pow_pos (by decide)))]
  rcases hm with rfl | rfl | rfl | rfl | rfl | rfl | rfl | rfl <;> simp [IntKind.wrap, IntKind.bits, IntKind.signed] at * <;> split <;> split <;> omega

theorem i64_wrap (n : Int) : IntKind.i64.wrap n = wrap64 n := by
  simp [IntKind.wrap, IntKind.bits, IntKind.signed, wrap64]
  split <;> omega
theorem u64_shl8 (u : Nat) (b : Nat) (hu : u < 72057594037927936) (hb : b < 256) : bits .or .u64 ((u : Int) * 256) (IntKind.u64.wrap (b : Int)) = ((u * 256 + b : Nat) : Int) := by
  have e : IntKind.u64.wrap (b : Int) = (b : Int) := by simp [IntKind.wrap, IntKind.bits, IntKind.signed]; omega
  rw [e, or_u64 8 _ _ (by omega) (by omega) (by omega) (by omega) (by omega) (by decide)]
  omega

def intAns (b : Nat → Nat) (len : Nat) (lo hi : Int) : Option Int := if intBad b len then none else if sv b len < lo ∨ hi < sv b len then none else some (sv b len)
end Go.Proofs.YbulkdtayFmt
