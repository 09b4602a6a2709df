import Derived.Test.YbulkdtayRow
import Derived.Deep.CutBlock
namespace Go.Proofs.Ybulkdtay
open Go.RowKit

theorem scanS_go (d : Array Int) (b i : Nat) (h : i < b) (hl : Sort.ltInt d[i]! d[i - 1]! = false) : Sort.scanSorted Sort.ltInt d b i = Sort.scanSorted Sort.ltInt d b (i + 1) := by rw [Sort.scanSorted, if_pos (by simp [h, hl])]
theorem scanS_stop (d : Array Int) (b i : Nat) (h : ¬ i < b ∨ Sort.ltInt d[i]! d[i - 1]! = true) : Sort.scanSorted Sort.ltInt d b i = i := by
  rw [Sort.scanSorted, if_neg]
  rcases h with h | h
  · simp [h]
  · simp [h]
theorem shiftD_go (j : Nat) (d : Array Int) (h : 0 < j) (hl : Sort.ltInt d[j]! d[j - 1]! = true) : Sort.shiftDown Sort.ltInt j d = Sort.shiftDown Sort.ltInt (j - 1) (Sort.swp d j (j - 1)) := by
  obtain ⟨k, rfl⟩ : ∃ k, j = k + 1 := ⟨j - 1, by omega⟩
  simp only [Nat.add_sub_cancel] at hl ⊢
  rw [Sort.shiftDown, if_neg (by simp [hl])]
theorem shiftD_stop (j : Nat) (d : Array Int) (h : j = 0 ∨ Sort.ltInt d[j]! d[j - 1]! = false) : Sort.shiftDown Sort.ltInt j d = d := by
  cases j with
  | zero => rfl
  | succ k =>
    simp only [Nat.add_sub_cancel] at h
    rw [Sort.shiftDown, if_pos (by rcases h with h | h; omega; simp [h])]
theorem shiftU_go (b j : Nat) (d : Array Int) (h : j < b) (hl : Sort.ltInt d[j]! d[j - 1]! = true) : Sort.shiftUp Sort.ltInt b j d = Sort.shiftUp Sort.ltInt b (j + 1) (Sort.swp d j (j - 1)) := by
  rw [Sort.shiftUp, if_pos h, if_neg (by simp [hl])]
theorem shiftU_stop (b j : Nat) (d : Array Int) (h : ¬ j < b ∨ Sort.ltInt d[j]! d[j - 1]! = false) : Sort.shiftUp Sort.ltInt b j d = d := by
  rw [Sort.shiftUp]
  rcases h with h | h
  · rw [if_neg h]
  · split
    · rw [if_pos (by simp [h])]
    · rfl

theorem pins_sorted (a b s i i2 : Nat) (d : Array Int) (h : Sort.scanSorted Sort.ltInt d b i = i2) (hb : i2 = b) : Sort.partialIns Sort.ltInt a b (s + 1) i d = (d, true) := by
  unfold Sort.partialIns
  simp only [h]
  rw [if_pos hb]
theorem pins_short (a b s i i2 : Nat) (d : Array Int) (h : Sort.scanSorted Sort.ltInt d b i = i2) (hb : i2 ≠ b) (hs : b - a < 50) : Sort.partialIns Sort.ltInt a b (s + 1) i d = (d, false) := by
  unfold Sort.partialIns
  simp only [h]
  rw [if_neg hb, if_pos hs]
theorem pins_more (a b s i i2 : Nat) (d : Array Int) (h : Sort.scanSorted Sort.ltInt d b i = i2) (hb : i2 ≠ b) (hs : ¬ b - a < 50) : Sort.partialIns Sort.ltInt a b (s + 1) i d =
    Sort.partialIns Sort.ltInt a b s i2 (if b - i2 ≥ 2 then Sort.shiftUp Sort.ltInt b (i2 + 1) (if i2 - a ≥ 2 then Sort.shiftDown Sort.ltInt (i2 - 1) (Sort.swp d i2 (i2 - 1)) else Sort.swp d i2 (i2 - 1)) else (if i2 - a ≥ 2 then Sort.shiftDown Sort.ltInt (i2 - 1) (Sort.swp d i2 (i2 - 1)) else Sort.swp d i2 (i2 - 1))) := by
  rw [Sort.partialIns]
  simp only [h]
  rw [if_neg hb, if_neg hs]

set_option maxHeartbeats 8000000 in
set_option maxRecDepth 100000 in
/-- partialInsertionSortOrdered. -/
theorem pins_any (base g a b n cap : Nat) (d : Array Int) (w0 w : World) (h : Srt base g w0 w n cap d) (hab : a < b) (hb : b ≤ n) :
    Calls Yba.prog 23 #[.slice (some ⟨g, 0, none⟩) n cap, .int .i64 a, .int .i64 b] w fun e w' => e = .returned (.bool (Sort.partialInsertionSort Sort.ltInt d a b).2) ∧ Srt base g w0 w' n cap (Sort.partialInsertionSort Sort.ltInt d a b).1 := by
  have hsm := h.small
  have HS := hide h
  generalize hR : Sort.partialInsertionSort Sort.ltInt d a b = R
  have HR : Hid (Sort.partialIns Sort.ltInt a b 5 (a + 1) d = R) := hide hR
  clear h hR
  go_enter Yba.func23, Yba.ntmps23
  go_wp2_with fail
  go_loopw [7, 8] (fun vi vt wr => ∃ (i t : Nat) (dk : Array Int), vi = .int .i64 i ∧ vt = .int .i64 t ∧ a < i ∧ i ≤ b ∧ t ≤ 5 ∧ Hid (Srt base g w0 wr n cap dk) ∧ Hid (Sort.partialIns Sort.ltInt a b (5 - t) i dk = R)) (fun _ vt _ => 5 - (intOf vt).toNat)
  case atStart => exact ⟨a + 1, 0, d, by go_num, rfl, by omega, by omega, by omega, HS, HR⟩
  case round =>
    clear HS HR
    obtain ⟨i, t, dk, rfl, rfl, hai, hib, ht, HS, HR⟩ := hrel
    by_cases ht5 : t = 5
    · subst ht5
      go_wp2
      go_ret
      rw [← HR.out]
      exact ⟨rfl, HS.out⟩
    obtain ⟨s, hs⟩ : ∃ s, 5 - t = s + 1 := ⟨4 - t, by omega⟩
    have hst : 5 - (t + 1) = s := by omega
    rw [hs] at HR
    have HST := hide hst
    clear hs hst
    have ht5' : t < 5 := by omega
    go_upto_block 2 with fail
    go_cut [7] from 17 to 34 (fun vi wc => ∃ i2 : Nat, vi = .int .i64 i2 ∧ a < i2 ∧ i2 ≤ b ∧ Hid (Srt base g w0 wc n cap dk) ∧ Hid (Sort.scanSorted Sort.ltInt dk b i = i2))
    case first =>
      go_wp2_with fail
      go_loopw [7] (fun vi wr2 => ∃ i2 : Nat, vi = .int .i64 i2 ∧ a < i2 ∧ i2 ≤ b ∧ Hid (Srt base g w0 wr2 n cap dk) ∧ Hid (Sort.scanSorted Sort.ltInt dk b i2 = Sort.scanSorted Sort.ltInt dk b i)) (fun vi _ => b + 1 - (intOf vi).toNat)
      case atStart => exact ⟨i, rfl, by omega, hib, HS, hide rfl⟩
      case round =>
        clear HS
        obtain ⟨i2, rfl, hi1, hi2, HS, HU⟩ := hrel
        obtain ⟨G, hG⟩ : ∃ G : Nat → Int, ∀ t, G t = dk[t]! := ⟨fun t => dk[t]!, fun _ => rfl⟩
        have hcw : ∀ t, t < n → wr.cell? ⟨g, t, none⟩ = some (.int .i32 (G t)) := fun t ht => by rw [hG]; exact HS.out.cell t ht
        have hfw : ∀ t, t < n → wr.frozen? ⟨g, t, none⟩ = false := fun t _ => HS.out.froz t
        have HG := hide hG
        clear hG
        by_cases hlt : i2 < b
        · have hld : decide ((i2 : Int) < (b : Int)) = true := by simp; omega
          have c0 := hcw (i2) (by omega)
          have f0 := hfw (i2) (by omega)
          have n0 : i2 < n := by omega
          have c1 := hcw (i2 - 1) (by omega)
          have f1 := hfw (i2 - 1) (by omega)
          have n1 : i2 - 1 < n := by omega
          by_cases hl : Sort.ltInt (G i2) (G (i2 - 1)) = true
          · go_wp2_with fail
            go_quiet (first | (go_at_call 24; refine Calls.quiet_of_same (less_any _ _ _)))
            go_wp2_with fail
            go_meet
            case rel => exact ⟨i2, rfl, hi1, hi2, hide (HS.out.drewN _), hide (by rw [← HU.out]; exact scanS_stop _ _ _ (Or.inr (by rw [HG.out, HG.out] at hl; exact hl)))⟩
          · have hl' : Sort.ltInt (G i2) (G (i2 - 1)) = false := by simpa using hl
            go_wp2_with fail
            go_quiet (first | (go_at_call 24; refine Calls.quiet_of_same (less_any _ _ _)))
            go_wp2_with fail
            exact ⟨⟨i2 + 1, by simp, by omega, by omega, hide (HS.out.drewN _), hide (by rw [← HU.out]; exact (scanS_go _ _ _ hlt (by rw [HG.out, HG.out] at hl'; exact hl')).symm)⟩, by simp [intOf]; omega⟩
        · have hld : decide ((i2 : Int) < (b : Int)) = false := by simp; omega
          go_wp2_with fail
          go_quiet (first | (go_at_call 24; refine Calls.quiet_of_same (less_any _ _ _)))
          go_wp2_with fail
          go_meet
          case rel => exact ⟨i2, rfl, hi1, hi2, hide (HS.out.drewN _), hide (by rw [← HU.out]; exact scanS_stop _ _ _ (Or.inl hlt))⟩
    case rest =>
      clear HS
      obtain ⟨i2, rfl, hi1, hi2, HS, HU⟩ := hcut
      by_cases hib2 : i2 = b
      · have hbi : ((i2 : Int) == (b : Int)) = true := by simp; omega
        have e := (pins_sorted a b s i i2 dk HU.out hib2).symm.trans HR.out
        have HE := hide e
        clear e hib2
        go_wp2
        go_ret
        rw [← HE.out]
        exact ⟨rfl, HS.out⟩
      have hbi : ((i2 : Int) == (b : Int)) = false := by simp; omega
      have hlt : i2 < b := by omega
      by_cases h50 : b - a < 50
      · have h50i : decide ((b : Int) - (a : Int) < 50) = true := by simp; omega
        have e := (pins_short a b s i i2 dk HU.out hib2 h50).symm.trans HR.out
        have HE := hide e
        clear e h50
        go_wp2
        go_ret
        rw [← HE.out]
        exact ⟨rfl, HS.out⟩
      have h50i : decide ((b : Int) - (a : Int) < 50) = false := by simp; omega
      have HR2 := hide ((pins_more a b s i i2 dk HU.out hib2 h50).symm.trans HR.out)
      clear HR HU hib2 h50 hai hib
      go_upto_region 11 with fail
      go_cut [] from 17 to 132 (fun wd => Hid (Srt base g w0 wd n cap (Sort.swp dk i2 (i2 - 1))))
      case first =>
        obtain ⟨G, hG⟩ : ∃ G : Nat → Int, ∀ t, G t = dk[t]! := ⟨fun t => dk[t]!, fun _ => rfl⟩
        have hcw : ∀ t, t < n → wc.cell? ⟨g, t, none⟩ = some (.int .i32 (G t)) := fun t ht => by rw [hG]; exact HS.out.cell t ht
        have hfw : ∀ t, t < n → wc.frozen? ⟨g, t, none⟩ = false := fun t _ => HS.out.froz t
        have HG := hide hG
        clear hG
        have c0 := hcw (i2) (by omega)
        have f0 := hfw (i2) (by omega)
        have n0 : i2 < n := by omega
        have c1 := hcw (i2 - 1) (by omega)
        have f1 := hfw (i2 - 1) (by omega)
        have n1 : i2 - 1 < n := by omega
        go_region
        all_goals go_wp2
        go_meet
        case rel =>
          rw [HG.out, HG.out]
          exact hide ((HS.out.swap i2 (i2 - 1)).drew)
      case rest =>
        have HS2 := hcut
        clear hcut HS hbi h50i
        generalize Sort.swp dk i2 (i2 - 1) = d1 at HS2 HR2
        clear dk
        generalize hd2 : (if i2 - a ≥ 2 then Sort.shiftDown Sort.ltInt (i2 - 1) d1 else d1) = d2 at HR2
        have HD2 := hide hd2
        clear hd2
        generalize hd3 : (if b - i2 ≥ 2 then Sort.shiftUp Sort.ltInt b (i2 + 1) d2 else d2) = d3 at HR2
        have HD3 := hide hd3
        clear hd3
        go_upto_if 61 with fail
        go_cut [] from 17 to 132 (fun wd => Hid (Srt base g w0 wd n cap d2))
        case first =>
          by_cases h2 : i2 - a ≥ 2
          · have h2i : decide ((2 : Int) ≤ (i2 : Int) - (a : Int)) = true := by simp; omega
            have HE : Hid (Sort.shiftDown Sort.ltInt (i2 - 1) d1 = d2) := hide (by rw [← HD2.out, if_pos h2])
            go_wp2_with fail
            go_loopw [9] (fun vj wr2 => ∃ (j : Nat) (dj : Array Int), vj = .int .i64 j ∧ j < b ∧ Hid (Srt base g w0 wr2 n cap dj) ∧ Hid (Sort.shiftDown Sort.ltInt j dj = d2)) (fun vj _ => (intOf vj).toNat)
            case atStart => exact ⟨i2 - 1, d1, by simp; omega, by omega, HS2, HE⟩
            case round =>
              clear HS2 HE
              obtain ⟨j, dj, rfl, hjb, HS, HE⟩ := hrel
              by_cases hj0 : j = 0
              · subst hj0
                go_wp2
                go_meet
                case rel =>
                  rw [← HE.out, shiftD_stop _ _ (Or.inl rfl)]
                  exact HS
              · skip
                obtain ⟨G, hG⟩ : ∃ G : Nat → Int, ∀ t, G t = dj[t]! := ⟨fun t => dj[t]!, fun _ => rfl⟩
                have hcw : ∀ t, t < n → wr.cell? ⟨g, t, none⟩ = some (.int .i32 (G t)) := fun t ht => by rw [hG]; exact HS.out.cell t ht
                have hfw : ∀ t, t < n → wr.frozen? ⟨g, t, none⟩ = false := fun t _ => HS.out.froz t
                have HG := hide hG
                clear hG
                have c0 := hcw (j) (by omega)
                have f0 := hfw (j) (by omega)
                have n0 : j < n := by omega
                have c1 := hcw (j - 1) (by omega)
                have f1 := hfw (j - 1) (by omega)
                have n1 : j - 1 < n := by omega
                have hj1 : 1 ≤ j := by omega
                by_cases hl : Sort.ltInt (G j) (G (j - 1)) = true
                · go_wp2_with fail
                  go_quiet (first | (go_at_call 24; refine Calls.quiet_of_same (less_any _ _ _)))
                  go_wp2_with fail
                  go_region
                  all_goals go_wp2
                  refine ⟨⟨j - 1, Sort.swp dj j (j - 1), by simp; omega, by omega, hide ?_, hide ((shiftD_go j dj (by omega) (by rw [HG.out, HG.out] at hl; exact hl)).symm.trans HE.out)⟩, by simp [intOf]; omega⟩
                  rw [HG.out, HG.out]
                  exact (HS.out.drewN _).swap j (j - 1)
                · have hl' : Sort.ltInt (G j) (G (j - 1)) = false := by simpa using hl
                  go_wp2_with fail
                  go_quiet (first | (go_at_call 24; refine Calls.quiet_of_same (less_any _ _ _)))
                  go_wp2
                  go_meet
                  case rel =>
                    rw [HG.out, HG.out] at hl'
                    rw [← HE.out, shiftD_stop _ _ (Or.inr hl')]
                    exact hide (HS.out.drewN _)
          · have h2i : decide ((2 : Int) ≤ (i2 : Int) - (a : Int)) = false := by simp; omega
            go_wp2
            go_meet
            case rel =>
              rw [← HD2.out, if_neg h2]
              exact HS2
        case rest =>
          have HS3 := hcut
          clear hcut HS2 HD2
          have HFIN : Hid (∀ wx, Srt base g w0 wx n cap d3 → Srt base g w0 wx n cap d3 ∧ Sort.partialIns Sort.ltInt a b (5 - (t + 1)) i2 d3 = R) := hide (fun wx hx => ⟨hx, by rw [HST.out]; exact HR2.out⟩)
          by_cases h2 : b - i2 ≥ 2
          · have h2i : decide ((2 : Int) ≤ (b : Int) - (i2 : Int)) = true := by simp; omega
            have HE : Hid (Sort.shiftUp Sort.ltInt b (i2 + 1) d2 = d3) := hide (by rw [← HD3.out, if_pos h2])
            go_wp2_with fail
            go_loopw [10] (fun vj wr2 => ∃ (j : Nat) (dj : Array Int), vj = .int .i64 j ∧ 0 < j ∧ j ≤ b ∧ Hid (Srt base g w0 wr2 n cap dj) ∧ Hid (Sort.shiftUp Sort.ltInt b j dj = d3)) (fun vj _ => b + 1 - (intOf vj).toNat)
            case atStart => exact ⟨i2 + 1, d2, by simp, by omega, by omega, HS3, HE⟩
            case round =>
              clear HS3 HE
              obtain ⟨j, dj, rfl, hj0, hjb, HS, HE⟩ := hrel
              by_cases hjb2 : j < b
              · skip
                obtain ⟨G, hG⟩ : ∃ G : Nat → Int, ∀ t, G t = dj[t]! := ⟨fun t => dj[t]!, fun _ => rfl⟩
                have hcw : ∀ t, t < n → wr.cell? ⟨g, t, none⟩ = some (.int .i32 (G t)) := fun t ht => by rw [hG]; exact HS.out.cell t ht
                have hfw : ∀ t, t < n → wr.frozen? ⟨g, t, none⟩ = false := fun t _ => HS.out.froz t
                have HG := hide hG
                clear hG
                have c0 := hcw (j) (by omega)
                have f0 := hfw (j) (by omega)
                have n0 : j < n := by omega
                have c1 := hcw (j - 1) (by omega)
                have f1 := hfw (j - 1) (by omega)
                have n1 : j - 1 < n := by omega
                by_cases hl : Sort.ltInt (G j) (G (j - 1)) = true
                · go_wp2_with fail
                  go_quiet (first | (go_at_call 24; refine Calls.quiet_of_same (less_any _ _ _)))
                  go_wp2_with fail
                  go_region
                  all_goals go_wp2
                  refine ⟨⟨j + 1, Sort.swp dj j (j - 1), by simp, by omega, by omega, hide ?_, hide ((shiftU_go b j dj hjb2 (by rw [HG.out, HG.out] at hl; exact hl)).symm.trans HE.out)⟩, by simp [intOf]; omega⟩
                  rw [HG.out, HG.out]
                  exact (HS.out.drewN _).swap j (j - 1)
                · have hl' : Sort.ltInt (G j) (G (j - 1)) = false := by simpa using hl
                  go_wp2_with fail
                  go_quiet (first | (go_at_call 24; refine Calls.quiet_of_same (less_any _ _ _)))
                  go_wp2
                  rw [HG.out, HG.out] at hl'
                  have hx := HE.out
                  rw [shiftU_stop _ _ _ (Or.inr hl')] at hx
                  subst hx
                  exact ⟨⟨i2, t + 1, _, rfl, by simp, hi1, hi2, by omega, hide (HS.out.drewN _), hide (HFIN.out _ (HS.out.drewN 0)).2⟩, by simp [intOf]; omega⟩
              · go_wp2
                have hx := HE.out
                rw [shiftU_stop _ _ _ (Or.inl hjb2)] at hx
                subst hx
                exact ⟨⟨i2, t + 1, _, rfl, by simp, hi1, hi2, by omega, HS, hide (HFIN.out _ HS.out).2⟩, by simp [intOf]; omega⟩
          · have h2i : decide ((2 : Int) ≤ (b : Int) - (i2 : Int)) = false := by simp; omega
            have hd3 : d2 = d3 := by rw [← HD3.out, if_neg h2]
            subst hd3
            go_wp2
            exact ⟨⟨i2, t + 1, _, rfl, by simp, hi1, hi2, by omega, HS3, hide (HFIN.out _ HS3.out).2⟩, by simp [intOf]; omega⟩
end Go.Proofs.Ybulkdtay
