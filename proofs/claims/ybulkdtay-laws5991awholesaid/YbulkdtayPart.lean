import Derived.Test.YbulkdtayPartEq
namespace Go.Proofs.Ybulkdtay
open Go.RowKit

theorem part_stop (a i j i2 j2 : Nat) (d : Array Int) (h1 : Sort.scanUp (fun x => Sort.ltInt x d[a]!) d j i = i2) (h2 : Sort.scanDown (fun x => !Sort.ltInt x d[a]!) d i2 j = j2) (h : j2 < i2) : Sort.partLoop Sort.ltInt a i j d = (j2, d) := by
  rw [Sort.partLoop]
  simp only [h1, h2]
  rw [if_pos (by omega)]
theorem part_go (a i j i2 j2 : Nat) (d : Array Int) (h1 : Sort.scanUp (fun x => Sort.ltInt x d[a]!) d j i = i2) (h2 : Sort.scanDown (fun x => !Sort.ltInt x d[a]!) d i2 j = j2) (h : i2 ≤ j2) (hi : i ≤ i2) (hj : j2 ≤ j) : Sort.partLoop Sort.ltInt a i j d = Sort.partLoop Sort.ltInt a (i2 + 1) (j2 - 1) (Sort.swp d i2 j2) := by
  rw [Sort.partLoop]
  simp only [h1, h2]
  rw [if_neg (by omega), dif_pos (by omega)]
theorem partition_one (a b pivot i2 j2 : Nat) (d d1 : Array Int) (hd : Sort.swp d a pivot = d1) (h1 : Sort.scanUp (fun x => Sort.ltInt x d1[a]!) d1 (b - 1) (a + 1) = i2) (h2 : Sort.scanDown (fun x => !Sort.ltInt x d1[a]!) d1 i2 (b - 1) = j2) (h : j2 < i2) : Sort.partition Sort.ltInt d a b pivot = (j2, true, Sort.swp d1 j2 a) := by
  unfold Sort.partition
  simp only [hd, h1, h2]
  rw [if_pos (by omega)]
theorem partition_more (a b pivot i2 j2 : Nat) (d d1 : Array Int) (hd : Sort.swp d a pivot = d1) (h1 : Sort.scanUp (fun x => Sort.ltInt x d1[a]!) d1 (b - 1) (a + 1) = i2) (h2 : Sort.scanDown (fun x => !Sort.ltInt x d1[a]!) d1 i2 (b - 1) = j2) (h : ¬ j2 < i2) : Sort.partition Sort.ltInt d a b pivot = ((Sort.partLoop Sort.ltInt a (i2 + 1) (j2 - 1) (Sort.swp d1 i2 j2)).1, false, Sort.swp (Sort.partLoop Sort.ltInt a (i2 + 1) (j2 - 1) (Sort.swp d1 i2 j2)).2 (Sort.partLoop Sort.ltInt a (i2 + 1) (j2 - 1) (Sort.swp d1 i2 j2)).1 a) := by
  unfold Sort.partition
  simp only [hd, h1, h2]
  rw [if_neg (by omega)]

set_option maxHeartbeats 8000000 in
set_option maxRecDepth 100000 in
/-- partitionOrdered. -/
theorem part_any (base g a b pivot n cap : Nat) (d : Array Int) (w0 w : World) (h : Srt base g w0 w n cap d) (hap : a ≤ pivot) (hpb : pivot < b) (hb : b ≤ n) :
    Calls Yba.prog 26 #[.slice (some ⟨g, 0, none⟩) n cap, .int .i64 a, .int .i64 b, .int .i64 pivot] w fun e w' => e = .returned (.tuple #[.int .i64 ((Sort.partition Sort.ltInt d a b pivot).1 : Nat), .bool (Sort.partition Sort.ltInt d a b pivot).2.1]) ∧ Srt base g w0 w' n cap (Sort.partition Sort.ltInt d a b pivot).2.2 := by
  have hsm := h.small
  have HS := hide h
  generalize hR : Sort.partition Sort.ltInt d a b pivot = R
  have HR : Hid (Sort.partition Sort.ltInt d a b pivot = R) := hide hR
  clear h hR
  go_enter Yba.func26, Yba.ntmps26
  go_wp2_with fail
  go_cut [] from 10 (fun wc => Hid (Srt base g w0 wc n cap (Sort.swp d a pivot)))
  case first =>
    obtain ⟨G, hG⟩ : ∃ G : Nat → Int, ∀ t, G t = d[t]! := ⟨fun t => d[t]!, fun _ => rfl⟩
    have hcw : ∀ t, t < n → w.cell? ⟨g, t, none⟩ = some (.int .i32 (G t)) := fun t ht => by rw [hG]; exact HS.out.cell t ht
    have hfw : ∀ t, t < n → w.frozen? ⟨g, t, none⟩ = false := fun t _ => HS.out.froz t
    have HG := hide hG
    clear hG
    have c0 := hcw (a) (by omega)
    have f0 := hfw (a) (by omega)
    have n0 : a < n := by omega
    have c1 := hcw (pivot) (by omega)
    have f1 := hfw (pivot) (by omega)
    have n1 : pivot < n := by omega
    by_cases hpa : pivot = a
    · subst hpa
      go_region
      all_goals go_wp2
      go_meet
      case rel =>
        rw [HG.out]
        exact hide ((HS.out.swap pivot pivot).drew)
    · have hne : a ≠ pivot := fun e => hpa e.symm
      go_region
      all_goals go_wp2
      go_meet
      case rel =>
        rw [HG.out, HG.out]
        exact hide ((HS.out.swap a pivot).drew)
  case rest =>
    have HS1 := hcut
    clear HS hcut
    generalize hdk : Sort.swp d a pivot = dk at HS1
    have HDK := hide hdk
    clear hdk
    have HS := HS1
    clear HS1
    go_upto_region 2 with fail
    obtain ⟨i, hi⟩ : ∃ i : Nat, i = a + 1 := ⟨_, rfl⟩
    obtain ⟨j, hj⟩ : ∃ j : Nat, j = b - 1 := ⟨_, rfl⟩
    have ei : (a : Int) + 1 = (i : Int) := by omega
    have ej : (b : Int) - 1 = (j : Int) := by omega
    have hai : a < i := by omega
    have hib : i ≤ b := by omega
    have haj : a ≤ j := by omega
    have hjb : j < b := by omega
    have HI := hide hi
    have HJ := hide hj
    have EI := hide ei
    have EJ := hide ej
    clear hi hj ei ej
    go_upto_block 0 with fail
    rw [EI.out, EJ.out]
    go_upto_block 0 with fail
    go_cut [10] from 30 to 45 (fun vi wc => ∃ i2 : Nat, vi = .int .i64 i2 ∧ i ≤ i2 ∧ i2 ≤ b ∧ Hid (Srt base g w0 wc n cap dk) ∧ Hid (Sort.scanUp (fun x => Sort.ltInt x dk[a]!) dk j i = i2))
    case first =>
      go_wp2_with fail
      go_loopw [10] (fun vi wr2 => ∃ i2 : Nat, vi = .int .i64 i2 ∧ i ≤ i2 ∧ i2 ≤ b ∧ Hid (Srt base g w0 wr2 n cap dk) ∧ Hid (Sort.scanUp (fun x => Sort.ltInt x dk[a]!) dk j i2 = Sort.scanUp (fun x => Sort.ltInt x dk[a]!) dk j i)) (fun vi _ => b + 1 - (intOf vi).toNat)
      case atStart => exact ⟨i, rfl, by omega, hib, HS, hide rfl⟩
      case round =>
        clear HS
        obtain ⟨i2, rfl, hi1, hi2, HS, HU⟩ := hrel
        obtain ⟨G, hG⟩ : ∃ G : Nat → Int, ∀ t, G t = dk[t]! := ⟨fun t => dk[t]!, fun _ => rfl⟩
        have hcw : ∀ t, t < n → wr.cell? ⟨g, t, none⟩ = some (.int .i32 (G t)) := fun t ht => by rw [hG]; exact HS.out.cell t ht
        have hfw : ∀ t, t < n → wr.frozen? ⟨g, t, none⟩ = false := fun t _ => HS.out.froz t
        have HG := hide hG
        clear hG
        by_cases hle : i2 ≤ j
        · have hld : decide ((i2 : Int) ≤ (j : Int)) = true := by simp; omega
          have c0 := hcw (a) (by omega)
          have f0 := hfw (a) (by omega)
          have n0 : a < n := by omega
          have c1 := hcw (i2) (by omega)
          have f1 := hfw (i2) (by omega)
          have n1 : i2 < n := by omega
          by_cases hl : Sort.ltInt (G i2) (G a) = true
          · go_wp2_with fail
            go_quiet (first | (go_at_call 24; refine Calls.quiet_of_same (less_any _ _ _)))
            go_wp2_with fail
            exact ⟨⟨i2 + 1, by simp, by omega, by omega, hide (HS.out.drewN _), hide (by rw [← HU.out]; exact (scanUp_go _ _ _ _ hle (by rw [HG.out, HG.out] at hl; exact hl)).symm)⟩, by simp [intOf]; omega⟩
          · have hl' : Sort.ltInt (G i2) (G a) = false := by simpa using hl
            go_wp2_with fail
            go_quiet (first | (go_at_call 24; refine Calls.quiet_of_same (less_any _ _ _)))
            go_wp2_with fail
            go_meet
            case rel => exact ⟨i2, rfl, hi1, hi2, hide (HS.out.drewN _), hide (by rw [← HU.out]; exact scanUp_stop _ _ _ _ (Or.inr (by rw [HG.out, HG.out] at hl'; exact hl')))⟩
        · have hld : decide ((i2 : Int) ≤ (j : Int)) = false := by simp; omega
          go_wp2_with fail
          go_quiet (first | (go_at_call 24; refine Calls.quiet_of_same (less_any _ _ _)))
          go_wp2_with fail
          go_meet
          case rel => exact ⟨i2, rfl, hi1, hi2, hide (HS.out.drewN _), hide (by rw [← HU.out]; exact scanUp_stop _ _ _ _ (Or.inl hle))⟩
    case rest =>
      clear HS
      obtain ⟨i2, rfl, hi1, hi2, HS, HU⟩ := hcut
      go_upto_block 2 with fail
      go_cut [11] from 46 to 62 (fun vj wc => ∃ j2 : Nat, vj = .int .i64 j2 ∧ a ≤ j2 ∧ j2 ≤ j ∧ Hid (Srt base g w0 wc n cap dk) ∧ Hid (Sort.scanDown (fun x => !Sort.ltInt x dk[a]!) dk i2 j = j2))
      case first =>
        go_wp2_with fail
        go_loopw [11] (fun vj wr2 => ∃ j2 : Nat, vj = .int .i64 j2 ∧ a ≤ j2 ∧ j2 ≤ j ∧ Hid (Srt base g w0 wr2 n cap dk) ∧ Hid (Sort.scanDown (fun x => !Sort.ltInt x dk[a]!) dk i2 j2 = Sort.scanDown (fun x => !Sort.ltInt x dk[a]!) dk i2 j)) (fun vj _ => (intOf vj).toNat)
        case atStart => exact ⟨j, rfl, by omega, by omega, HS, hide rfl⟩
        case round =>
          clear HS
          obtain ⟨j2, rfl, hj1, hj2, HS, HD⟩ := hrel
          obtain ⟨G, hG⟩ : ∃ G : Nat → Int, ∀ t, G t = dk[t]! := ⟨fun t => dk[t]!, fun _ => rfl⟩
          have hcw : ∀ t, t < n → wr.cell? ⟨g, t, none⟩ = some (.int .i32 (G t)) := fun t ht => by rw [hG]; exact HS.out.cell t ht
          have hfw : ∀ t, t < n → wr.frozen? ⟨g, t, none⟩ = false := fun t _ => HS.out.froz t
          have HG := hide hG
          clear hG
          by_cases hle : i2 ≤ j2
          · have hld : decide ((i2 : Int) ≤ (j2 : Int)) = true := by simp; omega
            have c0 := hcw (a) (by omega)
            have f0 := hfw (a) (by omega)
            have n0 : a < n := by omega
            have c1 := hcw (j2) (by omega)
            have f1 := hfw (j2) (by omega)
            have n1 : j2 < n := by omega
            by_cases hl : Sort.ltInt (G j2) (G a) = true
            · go_wp2_with fail
              go_quiet (first | (go_at_call 24; refine Calls.quiet_of_same (less_any _ _ _)))
              go_wp2_with fail
              go_meet
              case rel => exact ⟨j2, rfl, hj1, hj2, hide (HS.out.drewN _), hide (by rw [← HD.out]; exact scanDown_stop _ _ _ _ (Or.inr (by rw [HG.out, HG.out] at hl; simp [hl])))⟩
            · have hl' : Sort.ltInt (G j2) (G a) = false := by simpa using hl
              go_wp2_with fail
              go_quiet (first | (go_at_call 24; refine Calls.quiet_of_same (less_any _ _ _)))
              go_wp2_with fail
              exact ⟨⟨j2 - 1, by simp; omega, by omega, by omega, hide (HS.out.drewN _), hide (by rw [← HD.out]; exact (scanDown_go _ _ _ _ (by omega) hle (by rw [HG.out, HG.out] at hl'; simp [hl'])).symm)⟩, by simp [intOf]; omega⟩
          · have hld : decide ((i2 : Int) ≤ (j2 : Int)) = false := by simp; omega
            go_wp2_with fail
            go_quiet (first | (go_at_call 24; refine Calls.quiet_of_same (less_any _ _ _)))
            go_wp2_with fail
            go_meet
            case rel => exact ⟨j2, rfl, hj1, hj2, hide (HS.out.drewN _), hide (by rw [← HD.out]; exact scanDown_stop _ _ _ _ (Or.inl hle))⟩
      case rest =>
        clear HS
        obtain ⟨j2, rfl, hj1, hj2, HS, HD⟩ := hcut
        by_cases hgt : j2 < i2
        · skip
          by_cases hja : j2 = a
          · subst hja
            obtain ⟨G, hG⟩ : ∃ G : Nat → Int, ∀ t, G t = dk[t]! := ⟨fun t => dk[t]!, fun _ => rfl⟩
            have hcw : ∀ t, t < n → wc.cell? ⟨g, t, none⟩ = some (.int .i32 (G t)) := fun t ht => by rw [hG]; exact HS.out.cell t ht
            have hfw : ∀ t, t < n → wc.frozen? ⟨g, t, none⟩ = false := fun t _ => HS.out.froz t
            have HG := hide hG
            clear hG
            have c0 := hcw (j2) (by omega)
            have f0 := hfw (j2) (by omega)
            have n0 : j2 < n := by omega
            go_wp2_with fail
            go_region
            all_goals go_wp2
            go_ret2
            rw [← HR.out, partition_one _ b pivot i2 j2 d dk HDK.out (by rw [← HI.out, ← HJ.out]; exact HU.out) (by rw [← HJ.out]; exact HD.out) hgt]
            refine ⟨rfl, ?_⟩
            rw [HG.out]
            exact (HS.out.swap j2 j2).drew
          · have hne : j2 ≠ a := hja
            obtain ⟨G, hG⟩ : ∃ G : Nat → Int, ∀ t, G t = dk[t]! := ⟨fun t => dk[t]!, fun _ => rfl⟩
            have hcw : ∀ t, t < n → wc.cell? ⟨g, t, none⟩ = some (.int .i32 (G t)) := fun t ht => by rw [hG]; exact HS.out.cell t ht
            have hfw : ∀ t, t < n → wc.frozen? ⟨g, t, none⟩ = false := fun t _ => HS.out.froz t
            have HG := hide hG
            clear hG
            have c0 := hcw (a) (by omega)
            have f0 := hfw (a) (by omega)
            have n0 : a < n := by omega
            have c1 := hcw (j2) (by omega)
            have f1 := hfw (j2) (by omega)
            have n1 : j2 < n := by omega
            go_wp2_with fail
            go_region
            all_goals go_wp2
            go_ret2
            rw [← HR.out, partition_one _ b pivot i2 j2 d dk HDK.out (by rw [← HI.out, ← HJ.out]; exact HU.out) (by rw [← HJ.out]; exact HD.out) hgt]
            refine ⟨rfl, ?_⟩
            rw [HG.out, HG.out]
            exact (HS.out.swap j2 a).drew
        · skip
          have HM : Hid (Sort.partition Sort.ltInt d a b pivot = ((Sort.partLoop Sort.ltInt a (i2 + 1) (j2 - 1) (Sort.swp dk i2 j2)).1, false, Sort.swp (Sort.partLoop Sort.ltInt a (i2 + 1) (j2 - 1) (Sort.swp dk i2 j2)).2 (Sort.partLoop Sort.ltInt a (i2 + 1) (j2 - 1) (Sort.swp dk i2 j2)).1 a)) := hide (partition_more a b pivot i2 j2 d dk HDK.out (by rw [← HI.out, ← HJ.out]; exact HU.out) (by rw [← HJ.out]; exact HD.out) hgt)
          go_upto_region 10 with fail
          go_cut [] from 30 (fun wd => Hid (Srt base g w0 wd n cap (Sort.swp dk i2 j2)))
          case first =>
            obtain ⟨G, hG⟩ : ∃ G : Nat → Int, ∀ t, G t = dk[t]! := ⟨fun t => dk[t]!, fun _ => rfl⟩
            have hcw : ∀ t, t < n → wc.cell? ⟨g, t, none⟩ = some (.int .i32 (G t)) := fun t ht => by rw [hG]; exact HS.out.cell t ht
            have hfw : ∀ t, t < n → wc.frozen? ⟨g, t, none⟩ = false := fun t _ => HS.out.froz t
            have HG := hide hG
            clear hG
            have c0 := hcw (i2) (by omega)
            have f0 := hfw (i2) (by omega)
            have n0 : i2 < n := by omega
            have c1 := hcw (j2) (by omega)
            have f1 := hfw (j2) (by omega)
            have n1 : j2 < n := by omega
            by_cases heq : i2 = j2
            · subst heq
              go_region
              all_goals go_wp2
              go_meet
              case rel =>
                rw [HG.out]
                exact hide ((HS.out.swap i2 i2).drew)
            · go_region
              all_goals go_wp2
              go_meet
              case rel =>
                rw [HG.out, HG.out]
                exact hide ((HS.out.swap i2 j2).drew)
          case rest =>
            have HS2 := hcut
            clear hcut HS HU HD
            have HR2 := hide (HM.out.symm.trans HR.out)
            clear HM HR
            generalize Sort.swp dk i2 j2 = d2 at HS2 HR2
            generalize hL : Sort.partLoop Sort.ltInt a (i2 + 1) (j2 - 1) d2 = L at HR2
            have HL := hide hL
            clear hL
            clear HDK HI HJ EI EJ
            obtain ⟨i9, hi9⟩ : ∃ i9 : Nat, i9 = i2 + 1 := ⟨_, rfl⟩
            obtain ⟨j9, hj9⟩ : ∃ j9 : Nat, j9 = j2 - 1 := ⟨_, rfl⟩
            have e9 : (i2 : Int) + 1 = (i9 : Int) := by omega
            have f9 : (j2 : Int) - 1 = (j9 : Int) := by omega
            rw [← hi9, ← hj9] at HL
            have b1 : a < i9 := by omega
            have b2 : i9 ≤ b := by omega
            have b3 : a ≤ j9 := by omega
            have b4 : j9 < b := by omega
            have E9 := hide e9
            have F9 := hide f9
            clear hi9 hj9 e9 f9
            go_wp2_with fail
            rw [E9.out, F9.out]
            clear hgt hi1 hi2 hj1 hj2 hai hib haj hjb dk
            go_loopw [10, 11] (fun vi vj wr => ∃ (i j : Nat) (dk : Array Int), vi = .int .i64 i ∧ vj = .int .i64 j ∧ a < i ∧ i ≤ b ∧ a ≤ j ∧ j < b ∧ Hid (Srt base g w0 wr n cap dk) ∧ Hid (Sort.partLoop Sort.ltInt a i j dk = L)) (fun vi vj _ => (intOf vj + 1 - intOf vi).toNat)
            case atStart => exact ⟨i9, j9, d2, rfl, rfl, b1, b2, b3, b4, HS2, HL⟩
            case round =>
              clear HS2 HL b1 b2 b3 b4
              obtain ⟨i, j, dk, rfl, rfl, hai, hib, haj, hjb, HS, HL⟩ := hrel
              go_upto_block 6 with fail
              go_cut [10] from 99 to 114 (fun vi wc => ∃ i2 : Nat, vi = .int .i64 i2 ∧ i ≤ i2 ∧ i2 ≤ b ∧ Hid (Srt base g w0 wc n cap dk) ∧ Hid (Sort.scanUp (fun x => Sort.ltInt x dk[a]!) dk j i = i2))
              case first =>
                go_wp2_with fail
                go_loopw [10] (fun vi wr2 => ∃ i2 : Nat, vi = .int .i64 i2 ∧ i ≤ i2 ∧ i2 ≤ b ∧ Hid (Srt base g w0 wr2 n cap dk) ∧ Hid (Sort.scanUp (fun x => Sort.ltInt x dk[a]!) dk j i2 = Sort.scanUp (fun x => Sort.ltInt x dk[a]!) dk j i)) (fun vi _ => b + 1 - (intOf vi).toNat)
                case atStart => exact ⟨i, rfl, by omega, hib, HS, hide rfl⟩
                case round =>
                  clear HS
                  obtain ⟨i2, rfl, hi1, hi2, HS, HU⟩ := hrel
                  obtain ⟨G, hG⟩ : ∃ G : Nat → Int, ∀ t, G t = dk[t]! := ⟨fun t => dk[t]!, fun _ => rfl⟩
                  have hcw : ∀ t, t < n → wr.cell? ⟨g, t, none⟩ = some (.int .i32 (G t)) := fun t ht => by rw [hG]; exact HS.out.cell t ht
                  have hfw : ∀ t, t < n → wr.frozen? ⟨g, t, none⟩ = false := fun t _ => HS.out.froz t
                  have HG := hide hG
                  clear hG
                  by_cases hle : i2 ≤ j
                  · have hld : decide ((i2 : Int) ≤ (j : Int)) = true := by simp; omega
                    have c0 := hcw (a) (by omega)
                    have f0 := hfw (a) (by omega)
                    have n0 : a < n := by omega
                    have c1 := hcw (i2) (by omega)
                    have f1 := hfw (i2) (by omega)
                    have n1 : i2 < n := by omega
                    by_cases hl : Sort.ltInt (G i2) (G a) = true
                    · go_wp2_with fail
                      go_quiet (first | (go_at_call 24; refine Calls.quiet_of_same (less_any _ _ _)))
                      go_wp2_with fail
                      exact ⟨⟨i2 + 1, by simp, by omega, by omega, hide (HS.out.drewN _), hide (by rw [← HU.out]; exact (scanUp_go _ _ _ _ hle (by rw [HG.out, HG.out] at hl; exact hl)).symm)⟩, by simp [intOf]; omega⟩
                    · have hl' : Sort.ltInt (G i2) (G a) = false := by simpa using hl
                      go_wp2_with fail
                      go_quiet (first | (go_at_call 24; refine Calls.quiet_of_same (less_any _ _ _)))
                      go_wp2_with fail
                      go_meet
                      case rel => exact ⟨i2, rfl, hi1, hi2, hide (HS.out.drewN _), hide (by rw [← HU.out]; exact scanUp_stop _ _ _ _ (Or.inr (by rw [HG.out, HG.out] at hl'; exact hl')))⟩
                  · have hld : decide ((i2 : Int) ≤ (j : Int)) = false := by simp; omega
                    go_wp2_with fail
                    go_quiet (first | (go_at_call 24; refine Calls.quiet_of_same (less_any _ _ _)))
                    go_wp2_with fail
                    go_meet
                    case rel => exact ⟨i2, rfl, hi1, hi2, hide (HS.out.drewN _), hide (by rw [← HU.out]; exact scanUp_stop _ _ _ _ (Or.inl hle))⟩
              case rest =>
                clear HS
                obtain ⟨i2, rfl, hi1, hi2, HS, HU⟩ := hcut
                go_upto_block 8 with fail
                go_cut [11] from 115 to 131 (fun vj wc => ∃ j2 : Nat, vj = .int .i64 j2 ∧ a ≤ j2 ∧ j2 ≤ j ∧ Hid (Srt base g w0 wc n cap dk) ∧ Hid (Sort.scanDown (fun x => !Sort.ltInt x dk[a]!) dk i2 j = j2))
                case first =>
                  go_wp2_with fail
                  go_loopw [11] (fun vj wr2 => ∃ j2 : Nat, vj = .int .i64 j2 ∧ a ≤ j2 ∧ j2 ≤ j ∧ Hid (Srt base g w0 wr2 n cap dk) ∧ Hid (Sort.scanDown (fun x => !Sort.ltInt x dk[a]!) dk i2 j2 = Sort.scanDown (fun x => !Sort.ltInt x dk[a]!) dk i2 j)) (fun vj _ => (intOf vj).toNat)
                  case atStart => exact ⟨j, rfl, by omega, by omega, HS, hide rfl⟩
                  case round =>
                    clear HS
                    obtain ⟨j2, rfl, hj1, hj2, HS, HD⟩ := hrel
                    obtain ⟨G, hG⟩ : ∃ G : Nat → Int, ∀ t, G t = dk[t]! := ⟨fun t => dk[t]!, fun _ => rfl⟩
                    have hcw : ∀ t, t < n → wr.cell? ⟨g, t, none⟩ = some (.int .i32 (G t)) := fun t ht => by rw [hG]; exact HS.out.cell t ht
                    have hfw : ∀ t, t < n → wr.frozen? ⟨g, t, none⟩ = false := fun t _ => HS.out.froz t
                    have HG := hide hG
                    clear hG
                    by_cases hle : i2 ≤ j2
                    · have hld : decide ((i2 : Int) ≤ (j2 : Int)) = true := by simp; omega
                      have c0 := hcw (a) (by omega)
                      have f0 := hfw (a) (by omega)
                      have n0 : a < n := by omega
                      have c1 := hcw (j2) (by omega)
                      have f1 := hfw (j2) (by omega)
                      have n1 : j2 < n := by omega
                      by_cases hl : Sort.ltInt (G j2) (G a) = true
                      · go_wp2_with fail
                        go_quiet (first | (go_at_call 24; refine Calls.quiet_of_same (less_any _ _ _)))
                        go_wp2_with fail
                        go_meet
                        case rel => exact ⟨j2, rfl, hj1, hj2, hide (HS.out.drewN _), hide (by rw [← HD.out]; exact scanDown_stop _ _ _ _ (Or.inr (by rw [HG.out, HG.out] at hl; simp [hl])))⟩
                      · have hl' : Sort.ltInt (G j2) (G a) = false := by simpa using hl
                        go_wp2_with fail
                        go_quiet (first | (go_at_call 24; refine Calls.quiet_of_same (less_any _ _ _)))
                        go_wp2_with fail
                        exact ⟨⟨j2 - 1, by simp; omega, by omega, by omega, hide (HS.out.drewN _), hide (by rw [← HD.out]; exact (scanDown_go _ _ _ _ (by omega) hle (by rw [HG.out, HG.out] at hl'; simp [hl'])).symm)⟩, by simp [intOf]; omega⟩
                    · have hld : decide ((i2 : Int) ≤ (j2 : Int)) = false := by simp; omega
                      go_wp2_with fail
                      go_quiet (first | (go_at_call 24; refine Calls.quiet_of_same (less_any _ _ _)))
                      go_wp2_with fail
                      go_meet
                      case rel => exact ⟨j2, rfl, hj1, hj2, hide (HS.out.drewN _), hide (by rw [← HD.out]; exact scanDown_stop _ _ _ _ (Or.inl hle))⟩
                case rest =>
                  clear HS
                  obtain ⟨j2, rfl, hj1, hj2, HS, HD⟩ := hcut
                  by_cases hgt : j2 < i2
                  · have hL := (part_stop a i j i2 j2 dk HU.out HD.out hgt).symm.trans HL.out
                    subst hL
                    have HR3 := hide HR2.out.symm
                    clear HR2
                    by_cases hja : j2 = a
                    · subst hja
                      obtain ⟨G, hG⟩ : ∃ G : Nat → Int, ∀ t, G t = dk[t]! := ⟨fun t => dk[t]!, fun _ => rfl⟩
                      have hcw : ∀ t, t < n → wc.cell? ⟨g, t, none⟩ = some (.int .i32 (G t)) := fun t ht => by rw [hG]; exact HS.out.cell t ht
                      have hfw : ∀ t, t < n → wc.frozen? ⟨g, t, none⟩ = false := fun t _ => HS.out.froz t
                      have HG := hide hG
                      clear hG
                      have c0 := hcw (j2) (by omega)
                      have f0 := hfw (j2) (by omega)
                      have n0 : j2 < n := by omega
                      go_wp2_with fail
                      go_region
                      all_goals go_wp2
                      go_ret2
                      rw [HR3.out]
                      refine ⟨rfl, ?_⟩
                      rw [HG.out]
                      exact (HS.out.swap j2 j2).drew
                    · have hne : j2 ≠ a := hja
                      obtain ⟨G, hG⟩ : ∃ G : Nat → Int, ∀ t, G t = dk[t]! := ⟨fun t => dk[t]!, fun _ => rfl⟩
                      have hcw : ∀ t, t < n → wc.cell? ⟨g, t, none⟩ = some (.int .i32 (G t)) := fun t ht => by rw [hG]; exact HS.out.cell t ht
                      have hfw : ∀ t, t < n → wc.frozen? ⟨g, t, none⟩ = false := fun t _ => HS.out.froz t
                      have HG := hide hG
                      clear hG
                      have c0 := hcw (a) (by omega)
                      have f0 := hfw (a) (by omega)
                      have n0 : a < n := by omega
                      have c1 := hcw (j2) (by omega)
                      have f1 := hfw (j2) (by omega)
                      have n1 : j2 < n := by omega
                      go_wp2_with fail
                      go_region
                      all_goals go_wp2
                      go_ret2
                      rw [HR3.out]
                      refine ⟨rfl, ?_⟩
                      rw [HG.out, HG.out]
                      exact (HS.out.swap j2 a).drew
                  · skip
                    obtain ⟨G, hG⟩ : ∃ G : Nat → Int, ∀ t, G t = dk[t]! := ⟨fun t => dk[t]!, fun _ => rfl⟩
                    have hcw : ∀ t, t < n → wc.cell? ⟨g, t, none⟩ = some (.int .i32 (G t)) := fun t ht => by rw [hG]; exact HS.out.cell t ht
                    have hfw : ∀ t, t < n → wc.frozen? ⟨g, t, none⟩ = false := fun t _ => HS.out.froz t
                    have HG := hide hG
                    clear hG
                    have c0 := hcw (i2) (by omega)
                    have f0 := hfw (i2) (by omega)
                    have n0 : i2 < n := by omega
                    have c1 := hcw (j2) (by omega)
                    have f1 := hfw (j2) (by omega)
                    have n1 : j2 < n := by omega
                    by_cases heq : i2 = j2
                    · subst heq
                      go_wp2_with fail
                      go_region
                      all_goals go_wp2
                      refine ⟨⟨i2 + 1, i2 - 1, Sort.swp dk i2 i2, by simp, by simp; omega, by omega, by omega, by omega, by omega, hide ?_, hide ((part_go a i j i2 i2 dk HU.out HD.out (by omega) hi1 hj2).symm.trans HL.out)⟩, by simp [intOf]; omega⟩
                      rw [HG.out]
                      exact (HS.out.swap i2 i2).drew
                    · go_wp2_with fail
                      go_region
                      all_goals go_wp2
                      refine ⟨⟨i2 + 1, j2 - 1, Sort.swp dk i2 j2, by simp, by simp; omega, by omega, by omega, by omega, by omega, hide ?_, hide ((part_go a i j i2 j2 dk HU.out HD.out (by omega) hi1 hj2).symm.trans HL.out)⟩, by simp [intOf]; omega⟩
                      rw [HG.out, HG.out]
                      exact (HS.out.swap i2 j2).drew
end Go.Proofs.Ybulkdtay
