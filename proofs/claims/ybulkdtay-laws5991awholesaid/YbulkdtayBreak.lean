import Derived.Test.YbulkdtayPivot
namespace Go.Proofs.Ybulkdtay
open Go.RowKit

theorem and_le (v m : Int) (h0 : 0 ≤ m) (h1 : m < 18446744073709551616) : 0 ≤ bits .and .u64 v m ∧ bits .and .u64 v m ≤ m := by
  have e : (BitVec.ofInt 64 m).toNat = m.toNat := by
    rw [BitVec.toNat_ofInt]
    omega
  have k : (BitVec.ofInt 64 v &&& BitVec.ofInt 64 m).toNat ≤ m.toNat := by
    rw [BitVec.toNat_and, e]
    exact Nat.and_le_right
  have e2 : bits .and .u64 v m = (((BitVec.ofInt 64 v &&& BitVec.ofInt 64 m).toNat : Nat) : Int) % 18446744073709551616 := rfl
  rw [e2]
  generalize (BitVec.ofInt 64 v &&& BitVec.ofInt 64 m).toNat = x at k ⊢
  omega

/-- The row, and the generator's number in a block of its own. -/
structure Sx (base g : Nat) (w0 wl : World) (n cap : Nat) (d : Array Int) (S : Nat) : Prop where
  srt : Srt base g w0 wl n cap d
  lo : w0.heap.size ≤ S
  ne : g ≠ S
  cell : ∃ k : Int, wl.cell? ⟨S, 0, none⟩ = some (.int .u64 k)
  froz : wl.frozen? ⟨S, 0, none⟩ = false
theorem Sx.swap {base g n cap S : Nat} {w0 wl : World} {d : Array Int} (h : Sx base g w0 wl n cap d S) (i j : Nat) : Sx base g w0 (((wl.setCell ⟨g, i, none⟩ (.int .i32 d[j]!)).setCell ⟨g, j, none⟩ (.int .i32 d[i]!)).drew) n cap (Sort.swp d i j) S := by
  refine ⟨(h.srt.swap i j).drew, h.lo, h.ne, ?_, ?_⟩
  · obtain ⟨k, hk⟩ := h.cell
    refine ⟨k, ?_⟩
    show ((wl.setCell ⟨g, i, none⟩ (.int .i32 d[j]!)).setCell ⟨g, j, none⟩ (.int .i32 d[i]!)).cell? _ = _
    have ne1 : ∀ t, (⟨g, t, none⟩ : Addr) ≠ ⟨S, 0, none⟩ := fun t e => by injection e with e; exact h.ne e
    rw [World.cell?_setCell_other _ _ _ _ (ne1 j), World.cell?_setCell_other _ _ _ _ (ne1 i)]
    exact hk
  · show ((wl.setCell ⟨g, i, none⟩ (.int .i32 d[j]!)).setCell ⟨g, j, none⟩ (.int .i32 d[i]!)).frozen? _ = _
    rw [World.frozen?_setCell, World.frozen?_setCell]
    exact h.froz

theorem Sx.put {base g n cap S : Nat} {w0 wl : World} {d : Array Int} (h : Sx base g w0 wl n cap d S) (v : Int) : Sx base g w0 (wl.setCell ⟨S, 0, none⟩ (.int .u64 v)).drew n cap d S := by
  obtain ⟨k, hk⟩ := h.cell
  exact ⟨(h.srt.other S 0 _ h.lo h.ne).drew, h.lo, h.ne, ⟨v, World.cell?_setCell_same _ _ _ hk⟩, (World.frozen?_setCell _ _ _ _).trans h.froz⟩

set_option maxHeartbeats 2000000 in
set_option maxRecDepth 100000 in
/-- (*xorshift).Next: some number. -/
theorem xnext_any (base g S n cap : Nat) (d : Array Int) (w0 w : World) (h : Sx base g w0 w n cap d S) :
    Calls Yba.prog 31 #[.pointer (some ⟨S, 0, none⟩)] w fun e w' => (∃ v : Int, e = .returned (.int .u64 v)) ∧ Sx base g w0 w' n cap d S := by
  have HX := hide h
  clear h
  go_enter Yba.func31, Yba.ntmps31
  go_wp2_with fail
  go_cut [] from 3 (fun wc => Hid (Sx base g w0 wc n cap d S))
  case first =>
    obtain ⟨k, hk⟩ := HX.out.cell
    have hfz := HX.out.froz
    go_region
    all_goals go_wp2
    go_meet
    case rel => exact hide (HX.out.put _)
  case rest =>
    clear HX
    have HX := hcut
    clear hcut
    go_upto_region 2 with fail
    go_cut [] from 3 (fun wc => Hid (Sx base g w0 wc n cap d S))
    case first =>
      obtain ⟨k, hk⟩ := HX.out.cell
      have hfz := HX.out.froz
      go_region
      all_goals go_wp2
      go_meet
      case rel => exact hide (HX.out.put _)
    case rest =>
      clear HX
      have HX := hcut
      clear hcut
      go_upto_region 3 with fail
      go_cut [] from 3 (fun wc => Hid (Sx base g w0 wc n cap d S))
      case first =>
        obtain ⟨k, hk⟩ := HX.out.cell
        have hfz := HX.out.froz
        go_region
        all_goals go_wp2
        go_meet
        case rel => exact hide (HX.out.put _)
      case rest =>
        clear HX
        have HX := hcut
        clear hcut
        obtain ⟨k, hk⟩ := HX.out.cell
        go_wp2
        exact bodyPost_ret (v := .int .u64 k) (by simp [results, Yba.results31, go_sem]) rfl ⟨⟨k, rfl⟩, HX.out⟩

theorem bitLen_two : ∀ (f x : Nat), x ≤ f → 0 < x → x < 2 ^ 64 → 2 ^ Lib.bitLen x ≤ 2 * x
  | 0, x, hf, h0, _ => by omega
  | f + 1, x, hf, h0, hx => by
    rw [Lib.bitLen_half x (by omega) hx, Nat.pow_add]
    by_cases h1 : x / 2 = 0
    · rw [h1, show Lib.bitLen 0 = 0 from rfl]
      omega
    · have := bitLen_two f (x / 2) (by omega) (by omega) (by omega)
      omega
theorem bitLen_small (x : Nat) (h0 : 0 < x) (h : x ≤ 4096) : Lib.bitLen x ≤ 13 ∧ 2 ^ Lib.bitLen x ≤ 2 * x := by
  have h2 := bitLen_two x x (Nat.le_refl _) h0 (by omega)
  refine ⟨?_, h2⟩
  have h3 : 2 ^ Lib.bitLen x ≤ 2 ^ 13 := by
    have : (2 : Nat) ^ 13 = 8192 := by decide
    omega
  exact (Nat.pow_le_pow_iff_right (by decide)).1 h3

set_option maxHeartbeats 2000000 in
set_option maxRecDepth 100000 in
/-- nextPowerOfTwo. -/
theorem npot_any (x : Nat) (w : World) (h0 : 0 < x) (h : x ≤ 4096) : Calls Yba.prog 30 #[.int .i64 x] w fun e w' => (∃ m : Nat, e = .returned (.int .u64 m) ∧ 1 ≤ m ∧ m ≤ 2 * x) ∧ w' = w := by
  have hb := bitLen_small x h0 h
  have HL := hide (Any.bits_Len Yba.lays125 (x : Int) w (by omega) (by omega))
  rw [Int.toNat_natCast] at HL
  generalize Lib.bitLen x = k at HL hb
  go_enter Yba.func30, Yba.ntmps30
  go_wp2_with (go_at_call 17; refine HL.out.mono ?_; rintro e w1 ⟨rfl, rfl⟩)
  have e1 : IntKind.u64.wrap (2 ^ k) = ((2 ^ k : Nat) : Int) := by
    have h1 : (((2 ^ k : Nat) : Int)) = (2 : Int) ^ k := by simp
    have h2 : (2 ^ k : Nat) ≤ 8192 := by have := hb.2; omega
    rw [← h1]
    generalize (2 ^ k : Nat) = y at h2 ⊢
    simp only [IntKind.wrap, IntKind.bits, IntKind.signed, Bool.false_and, Bool.false_eq_true, if_false]
    omega
  rw [e1]
  exact bodyPost_ret (v := .int .u64 ((2 ^ k : Nat) : Int)) (by simp [results, Yba.results30, go_sem]) rfl ⟨⟨2 ^ k, rfl, Nat.one_le_two_pow, hb.2⟩, rfl⟩

theorem wrap_small (x : Int) (h0 : 0 ≤ x) (h1 : x ≤ 8192) : wrap64 x = x := by unfold wrap64; omega

set_option maxHeartbeats 4000000 in
set_option maxRecDepth 100000 in
/-- breakPatternsOrdered: some permutation. -/
theorem break_any (base g a b n cap : Nat) (d : Array Int) (w0 w : World) (h : Srt base g w0 w n cap d) (hab : a + 12 < b) (hb : b ≤ n) (hlo : w0.heap.size ≤ w.heap.size) :
    Calls Yba.prog 20 #[.slice (some ⟨g, 0, none⟩) n cap, .int .i64 a, .int .i64 b] w fun e w' => e = .returned (.tuple #[]) ∧ ∃ d', Srt base g w0 w' n cap d' ∧ Sort.PermIn a b d d' := by
  have hsm := h.small
  obtain ⟨l, hl⟩ : ∃ l : Nat, l = b - a := ⟨_, rfl⟩
  have el : (b : Int) - (a : Int) = (l : Int) := by omega
  have hl12 : 12 < l := by omega
  have hlb : a + l = b := by omega
  have EL := hide el
  clear el hl
  have HW : Hid (∀ v, Sx base g w0 (w.alloc (.cells #[.int .u64 v] 57)) n cap d w.heap.size) := hide (fun v => ⟨h.alloc _ (by omega), hlo, Nat.ne_of_lt (h.lt (by omega)), ⟨v, by rw [cell_at (heap_alloc_new _ _)]; rfl⟩, frozen_at (heap_alloc_new _ _) 0⟩)
  have hsz := h.sz
  have HP0 := hide (Sort.permIn_refl d a b)
  clear h
  go_enter Yba.func20, Yba.ntmps20
  go_upto_region 1 with fail
  rw [EL.out]
  go_wp2_with fail
  refine (npot_any l _ (by omega) (by omega)).mono ?_
  rintro e w1 ⟨⟨m, rfl, hm1, hm2⟩, rfl⟩
  have HX := hide (HW.out (l : Int))
  clear HW
  go_wp2_with fail
  generalize hS : w.heap.size = S at HX ⊢
  generalize w.alloc (.cells #[.int .u64 (l : Int)] 57) = wa at HX ⊢
  clear hS hlo
  go_loopw [9] (fun vi wr => ∃ (i : Nat) (dk : Array Int), vi = .int .i64 i ∧ a ≤ i ∧ i ≤ a + l / 4 * 2 + 2 ∧ Hid (Sx base g w0 wr n cap dk S) ∧ Hid (Sort.PermIn a b d dk)) (fun vi _ => a + l / 4 * 2 + 3 - (intOf vi).toNat)
  case atStart => exact ⟨a + l / 4 * 2 - 1, d, by congr 1; omega, by omega, by omega, HX, HP0⟩
  case round =>
    clear HX HP0
    obtain ⟨i, dk, rfl, hai, hib, HX, HP⟩ := hrel
    by_cases hle : i ≤ a + l / 4 * 2 + 1
    · have hled : decide ((i : Int) ≤ (a : Int) + (l : Int) / 4 * 2 + 1) = true := by simp; omega
      go_wp2_with fail
      refine (xnext_any base g S n cap dk w0 wr HX.out).mono ?_
      rintro e w2 ⟨⟨v, rfl⟩, hx2⟩
      have HX2 := hide hx2
      clear hx2 HX
      go_upto_region 8 with fail
      have hand := and_le v ((m : Int) - 1) (by omega) (by omega)
      rw [wrap_small _ hand.1 (by omega)]
      obtain ⟨o, ho⟩ := Int.eq_ofNat_of_zero_le hand.1
      rw [ho] at hand ⊢
      have hom : o < 2 * l := by omega
      clear hand ho
      go_upto_if 43 with fail
      go_cut [10] from 26 to 64 (fun v wc => ∃ p : Nat, v = .int .i64 p ∧ p < l ∧ Hid (Sx base g w0 wc n cap dk S))
      case first =>
        by_cases hol : l ≤ o
        · go_wp2
          go_meet
          case rel => exact ⟨o - l, by congr 1; omega, by omega, HX2⟩
        · go_wp2
          go_meet
          case rel => exact ⟨o, rfl, by omega, HX2⟩
      case rest =>
        obtain ⟨p, rfl, hpl, HX3⟩ := hcut
        clear HX2
        have HS : Hid (Srt base g w0 wc n cap dk) := hide HX3.out.srt
        obtain ⟨G, hG⟩ : ∃ G : Nat → Int, ∀ t, G t = dk[t]! := ⟨fun t => dk[t]!, fun _ => rfl⟩
        have hcw : ∀ t, t < n → wc.cell? ⟨g, t, none⟩ = some (.int .i32 (G t)) := fun t ht => by rw [hG]; exact HS.out.cell t ht
        have hfw : ∀ t, t < n → wc.frozen? ⟨g, t, none⟩ = false := fun t _ => HS.out.froz t
        have HG := hide hG
        clear hG
        have HP2 : Hid (Sort.PermIn a b d (Sort.swp dk i (a + p))) := hide (Sort.permIn_trans _ _ _ a b HP.out (Sort.swp_permIn dk a b i (a + p) hai (by omega) (by omega) (by omega) (by have := HS.out.sz; omega)))
        by_cases hip : i = a + p
        · subst hip
          have c0 := hcw (a + p) (by omega)
          have f0 := hfw (a + p) (by omega)
          have n0 : a + p < n := by omega
          go_wp2_with fail
          go_region
          all_goals go_wp2
          refine ⟨⟨a + p + 1, _, by simp, by omega, by omega, hide ?_, HP2⟩, by simp [intOf]; omega⟩
          rw [HG.out]
          exact HX3.out.swap (a + p) (a + p)
        · skip
          have c0 := hcw (i) (by omega)
          have f0 := hfw (i) (by omega)
          have n0 : i < n := by omega
          have c1 := hcw (a + p) (by omega)
          have f1 := hfw (a + p) (by omega)
          have n1 : a + p < n := by omega
          go_wp2_with fail
          go_region
          all_goals go_wp2
          refine ⟨⟨i + 1, _, by simp, by omega, by omega, hide ?_, HP2⟩, by simp [intOf]; omega⟩
          rw [HG.out, HG.out]
          exact HX3.out.swap i (a + p)
    · have hled : decide ((i : Int) ≤ (a : Int) + (l : Int) / 4 * 2 + 1) = false := by simp; omega
      go_wp2
      go_end0
      exact ⟨rfl, dk, HX.out.srt, HP.out⟩
end Go.Proofs.Ybulkdtay
