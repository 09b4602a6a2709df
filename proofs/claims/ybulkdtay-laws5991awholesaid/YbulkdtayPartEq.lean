import Derived.Test.YbulkdtayRow
import Derived.Deep.CutBlock
namespace Go.Proofs.Ybulkdtay
open Go.RowKit

theorem scanUp_go (p : Int → Bool) (d : Array Int) (j i : Nat) (h : i ≤ j) (hp : p d[i]! = true) : Sort.scanUp p d j i = Sort.scanUp p d j (i + 1) := by rw [Sort.scanUp, if_pos (by simp [h, hp])]
theorem scanUp_stop (p : Int → Bool) (d : Array Int) (j i : Nat) (h : ¬ i ≤ j ∨ p d[i]! = false) : Sort.scanUp p d j i = i := by
  rw [Sort.scanUp, if_neg]
  rcases h with h | h
  · simp [h]
  · simp [h]
theorem scanDown_go (p : Int → Bool) (d : Array Int) (i j : Nat) (h0 : 0 < j) (h : i ≤ j) (hp : p d[j]! = true) : Sort.scanDown p d i j = Sort.scanDown p d i (j - 1) := by
  obtain ⟨k, rfl⟩ : ∃ k, j = k + 1 := ⟨j - 1, by omega⟩
  rw [Sort.scanDown, if_pos (by simp [h, hp])]
  simp
theorem scanDown_stop (p : Int → Bool) (d : Array Int) (i j : Nat) (h : ¬ i ≤ j ∨ p d[j]! = false) : Sort.scanDown p d i j = j := by
  cases j with
  | zero => rfl
  | succ k =>
    rw [Sort.scanDown, if_neg]
    rcases h with h | h
    · simp [h]
    · simp [h]

theorem partEq_stop (a i j i2 j2 : Nat) (d : Array Int) (h1 : Sort.scanUp (fun x => !Sort.ltInt d[a]! x) d j i = i2) (h2 : Sort.scanDown (fun x => Sort.ltInt d[a]! x) d i2 j = j2) (h : j2 < i2) : Sort.partEqLoop Sort.ltInt a i j d = (i2, d) := by
  rw [Sort.partEqLoop]
  simp only [h1, h2]
  rw [if_pos (by omega)]
theorem partEq_go (a i j i2 j2 : Nat) (d : Array Int) (h1 : Sort.scanUp (fun x => !Sort.ltInt d[a]! x) d j i = i2) (h2 : Sort.scanDown (fun x => Sort.ltInt d[a]! x) d i2 j = j2) (h : i2 ≤ j2) (hi : i ≤ i2) (hj : j2 ≤ j) : Sort.partEqLoop Sort.ltInt a i j d = Sort.partEqLoop Sort.ltInt a (i2 + 1) (j2 - 1) (Sort.swp d i2 j2) := by
  rw [Sort.partEqLoop]
  simp only [h1, h2]
  rw [if_neg (by omega), dif_pos (by omega)]

set_option maxHeartbeats 4000000 in
set_option maxRecDepth 100000 in
/-- partitionEqualOrdered. -/
theorem partEq_any (base g a b pivot n cap : Nat) (d : Array Int) (w0 w : World) (h : Srt base g w0 w n cap d) (hap : a ≤ pivot) (hpb : pivot < b) (hb : b ≤ n) :
    Calls Yba.prog 25 #[.slice (some ⟨g, 0, none⟩) n cap, .int .i64 a, .int .i64 b, .int .i64 pivot] w fun e w' => e = .returned (.int .i64 ((Sort.partitionEqual Sort.ltInt d a b pivot).1 : Nat)) ∧ Srt base g w0 w' n cap (Sort.partitionEqual Sort.ltInt d a b pivot).2 := by
  have hsm := h.small
  have HS := hide h
  have e0 : Sort.partitionEqual Sort.ltInt d a b pivot = Sort.partEqLoop Sort.ltInt a (a + 1) (b - 1) (Sort.swp d a pivot) := rfl
  rw [e0]
  generalize hR : Sort.partEqLoop Sort.ltInt a (a + 1) (b - 1) (Sort.swp d a pivot) = R
  have HR : Hid (Sort.partEqLoop Sort.ltInt a (a + 1) (b - 1) (Sort.swp d a pivot) = R) := hide hR
  clear h hR e0
  go_enter Yba.func25, Yba.ntmps25
  go_wp2_with fail
  go_cut [] from 9 (fun wc => Hid (Srt base g w0 wc n cap (Sort.swp d a pivot)))
  case first =>
    obtain ⟨G, hG⟩ : ∃ G : Nat → Int, ∀ t, G t = d[t]! := ⟨fun t => d[t]!, fun _ => rfl⟩
    have hcw : ∀ t, t < n → w.cell? ⟨g, t, none⟩ = some (.int .i32 (G t)) := fun t ht => by rw [hG]; exact HS.out.cell t ht
    have hfw : ∀ t, t < n → w.frozen? ⟨g, t, none⟩ = false := fun t _ => HS.out.froz t
    have HG := hide hG
    clear hG
    have c0 := hcw (a) (by omega)
    have f0 := hfw (a) (by omega)
    have n0 : a < n := by omega
    have c1 := hcw (pivot) (by omega)
    have f1 := hfw (pivot) (by omega)
    have n1 : pivot < n := by omega
    by_cases hpa : pivot = a
    · subst hpa
      go_region
      all_goals go_wp2
      go_meet
      case rel =>
        rw [HG.out]
        exact hide ((HS.out.swap pivot pivot).drew)
    · have hne : a ≠ pivot := fun e => hpa e.symm
      go_region
      all_goals go_wp2
      go_meet
      case rel =>
        rw [HG.out, HG.out]
        exact hide ((HS.out.swap a pivot).drew)
  case rest =>
    have HS1 := hcut
    clear HS hcut
    generalize Sort.swp d a pivot = d1 at HS1 HR
    clear d
    go_wp2_with fail
    go_loopw [9, 10] (fun vi vj wr => ∃ (i j : Nat) (dk : Array Int), vi = .int .i64 i ∧ vj = .int .i64 j ∧ a < i ∧ i ≤ b ∧ a ≤ j ∧ j < b ∧ Hid (Srt base g w0 wr n cap dk) ∧ Hid (Sort.partEqLoop Sort.ltInt a i j dk = R)) (fun vi vj _ => (intOf vj + 1 - intOf vi).toNat)
    case atStart => exact ⟨a + 1, b - 1, d1, by go_num, by go_num, by omega, by omega, by omega, by omega, HS1, HR⟩
    case round =>
      clear HS1 HR
      obtain ⟨i, j, dk, rfl, rfl, hai, hib, haj, hjb, HS, HR⟩ := hrel
      go_upto_block 2 with fail
      go_cut [9] from 29 to 45 (fun vi wc => ∃ i2 : Nat, vi = .int .i64 i2 ∧ i ≤ i2 ∧ i2 ≤ b ∧ Hid (Srt base g w0 wc n cap dk) ∧ Hid (Sort.scanUp (fun x => !Sort.ltInt dk[a]! x) dk j i = i2))
      case first =>
        go_wp2_with fail
        go_loopw [9] (fun vi wr2 => ∃ i2 : Nat, vi = .int .i64 i2 ∧ i ≤ i2 ∧ i2 ≤ b ∧ Hid (Srt base g w0 wr2 n cap dk) ∧ Hid (Sort.scanUp (fun x => !Sort.ltInt dk[a]! x) dk j i2 = Sort.scanUp (fun x => !Sort.ltInt dk[a]! x) dk j i)) (fun vi _ => b + 1 - (intOf vi).toNat)
        case atStart => exact ⟨i, rfl, by omega, hib, HS, hide rfl⟩
        case round =>
          clear HS
          obtain ⟨i2, rfl, hi1, hi2, HS, HU⟩ := hrel
          obtain ⟨G, hG⟩ : ∃ G : Nat → Int, ∀ t, G t = dk[t]! := ⟨fun t => dk[t]!, fun _ => rfl⟩
          have hcw : ∀ t, t < n → wr.cell? ⟨g, t, none⟩ = some (.int .i32 (G t)) := fun t ht => by rw [hG]; exact HS.out.cell t ht
          have hfw : ∀ t, t < n → wr.frozen? ⟨g, t, none⟩ = false := fun t _ => HS.out.froz t
          have HG := hide hG
          clear hG
          by_cases hle : i2 ≤ j
          · have hld : decide ((i2 : Int) ≤ (j : Int)) = true := by simp; omega
            have c0 := hcw (a) (by omega)
            have f0 := hfw (a) (by omega)
            have n0 : a < n := by omega
            have c1 := hcw (i2) (by omega)
            have f1 := hfw (i2) (by omega)
            have n1 : i2 < n := by omega
            by_cases hl : Sort.ltInt (G a) (G i2) = true
            · go_wp2_with fail
              go_quiet (first | (go_at_call 24; refine Calls.quiet_of_same (less_any _ _ _)))
              go_wp2_with fail
              go_meet
              case rel => exact ⟨i2, rfl, hi1, hi2, hide (HS.out.drewN _), hide (by rw [← HU.out]; exact scanUp_stop _ _ _ _ (Or.inr (by rw [HG.out, HG.out] at hl; simp [hl])))⟩
            · have hl' : Sort.ltInt (G a) (G i2) = false := by simpa using hl
              go_wp2_with fail
              go_quiet (first | (go_at_call 24; refine Calls.quiet_of_same (less_any _ _ _)))
              go_wp2_with fail
              exact ⟨⟨i2 + 1, by simp, by omega, by omega, hide (HS.out.drewN _), hide (by rw [← HU.out]; exact (scanUp_go _ _ _ _ hle (by rw [HG.out, HG.out] at hl'; simp [hl'])).symm)⟩, by simp [intOf]; omega⟩
          · have hld : decide ((i2 : Int) ≤ (j : Int)) = false := by simp; omega
            go_wp2_with fail
            go_quiet (first | (go_at_call 24; refine Calls.quiet_of_same (less_any _ _ _)))
            go_wp2_with fail
            go_meet
            case rel => exact ⟨i2, rfl, hi1, hi2, hide (HS.out.drewN _), hide (by rw [← HU.out]; exact scanUp_stop _ _ _ _ (Or.inl hle))⟩
      case rest =>
        clear HS
        obtain ⟨i2, rfl, hi1, hi2, HS, HU⟩ := hcut
        go_upto_block 4 with fail
        go_cut [10] from 46 to 61 (fun vj wc => ∃ j2 : Nat, vj = .int .i64 j2 ∧ a ≤ j2 ∧ j2 ≤ j ∧ Hid (Srt base g w0 wc n cap dk) ∧ Hid (Sort.scanDown (fun x => Sort.ltInt dk[a]! x) dk i2 j = j2))
        case first =>
          go_wp2_with fail
          go_loopw [10] (fun vj wr2 => ∃ j2 : Nat, vj = .int .i64 j2 ∧ a ≤ j2 ∧ j2 ≤ j ∧ Hid (Srt base g w0 wr2 n cap dk) ∧ Hid (Sort.scanDown (fun x => Sort.ltInt dk[a]! x) dk i2 j2 = Sort.scanDown (fun x => Sort.ltInt dk[a]! x) dk i2 j)) (fun vj _ => (intOf vj).toNat)
          case atStart => exact ⟨j, rfl, by omega, by omega, HS, hide rfl⟩
          case round =>
            clear HS
            obtain ⟨j2, rfl, hj1, hj2, HS, HD⟩ := hrel
            obtain ⟨G, hG⟩ : ∃ G : Nat → Int, ∀ t, G t = dk[t]! := ⟨fun t => dk[t]!, fun _ => rfl⟩
            have hcw : ∀ t, t < n → wr.cell? ⟨g, t, none⟩ = some (.int .i32 (G t)) := fun t ht => by rw [hG]; exact HS.out.cell t ht
            have hfw : ∀ t, t < n → wr.frozen? ⟨g, t, none⟩ = false := fun t _ => HS.out.froz t
            have HG := hide hG
            clear hG
            by_cases hle : i2 ≤ j2
            · have hld : decide ((i2 : Int) ≤ (j2 : Int)) = true := by simp; omega
              have c0 := hcw (a) (by omega)
              have f0 := hfw (a) (by omega)
              have n0 : a < n := by omega
              have c1 := hcw (j2) (by omega)
              have f1 := hfw (j2) (by omega)
              have n1 : j2 < n := by omega
              by_cases hl : Sort.ltInt (G a) (G j2) = true
              · go_wp2_with fail
                go_quiet (first | (go_at_call 24; refine Calls.quiet_of_same (less_any _ _ _)))
                go_wp2_with fail
                exact ⟨⟨j2 - 1, by simp; omega, by omega, by omega, hide (HS.out.drewN _), hide (by rw [← HD.out]; exact (scanDown_go _ _ _ _ (by omega) hle (by rw [HG.out, HG.out] at hl; exact hl)).symm)⟩, by simp [intOf]; omega⟩
              · have hl' : Sort.ltInt (G a) (G j2) = false := by simpa using hl
                go_wp2_with fail
                go_quiet (first | (go_at_call 24; refine Calls.quiet_of_same (less_any _ _ _)))
                go_wp2_with fail
                go_meet
                case rel => exact ⟨j2, rfl, hj1, hj2, hide (HS.out.drewN _), hide (by rw [← HD.out]; exact scanDown_stop _ _ _ _ (Or.inr (by rw [HG.out, HG.out] at hl'; exact hl')))⟩
            · have hld : decide ((i2 : Int) ≤ (j2 : Int)) = false := by simp; omega
              go_wp2_with fail
              go_quiet (first | (go_at_call 24; refine Calls.quiet_of_same (less_any _ _ _)))
              go_wp2_with fail
              go_meet
              case rel => exact ⟨j2, rfl, hj1, hj2, hide (HS.out.drewN _), hide (by rw [← HD.out]; exact scanDown_stop _ _ _ _ (Or.inl hle))⟩
        case rest =>
          clear HS
          obtain ⟨j2, rfl, hj1, hj2, HS, HD⟩ := hcut
          by_cases hgt : j2 < i2
          · go_wp2
            go_ret
            have e := (partEq_stop a i j i2 j2 dk HU.out HD.out hgt).symm.trans HR.out
            rw [← e]
            exact ⟨rfl, HS.out⟩
          · skip
            obtain ⟨G, hG⟩ : ∃ G : Nat → Int, ∀ t, G t = dk[t]! := ⟨fun t => dk[t]!, fun _ => rfl⟩
            have hcw : ∀ t, t < n → wc.cell? ⟨g, t, none⟩ = some (.int .i32 (G t)) := fun t ht => by rw [hG]; exact HS.out.cell t ht
            have hfw : ∀ t, t < n → wc.frozen? ⟨g, t, none⟩ = false := fun t _ => HS.out.froz t
            have HG := hide hG
            clear hG
            have c0 := hcw (i2) (by omega)
            have f0 := hfw (i2) (by omega)
            have n0 : i2 < n := by omega
            have c1 := hcw (j2) (by omega)
            have f1 := hfw (j2) (by omega)
            have n1 : j2 < n := by omega
            by_cases heq : i2 = j2
            · subst heq
              go_wp2_with fail
              go_region
              all_goals go_wp2
              refine ⟨⟨i2 + 1, i2 - 1, Sort.swp dk i2 i2, by simp, by simp; omega, by omega, by omega, by omega, by omega, hide ?_, hide ((partEq_go a i j i2 i2 dk HU.out HD.out (by omega) hi1 hj2).symm.trans HR.out)⟩, by simp [intOf]; omega⟩
              rw [HG.out]
              exact (HS.out.swap i2 i2).drew
            · go_wp2_with fail
              go_region
              all_goals go_wp2
              refine ⟨⟨i2 + 1, j2 - 1, Sort.swp dk i2 j2, by simp, by simp; omega, by omega, by omega, by omega, by omega, hide ?_, hide ((partEq_go a i j i2 j2 dk HU.out HD.out (by omega) hi1 hj2).symm.trans HR.out)⟩, by simp [intOf]; omega⟩
              rw [HG.out, HG.out]
              exact (HS.out.swap i2 j2).drew
end Go.Proofs.Ybulkdtay
