import Derived.Test.YbulkdtayRow
namespace Go.Proofs.Ybulkdtay
open Go.RowKit

theorem insInner_go (a j : Nat) (d : Array Int) (hj : a < j) (hl : Sort.ltInt d[j]! d[j - 1]! = true) : Sort.insInner Sort.ltInt a j d = Sort.insInner Sort.ltInt a (j - 1) (Sort.swp d j (j - 1)) := by
  obtain ⟨k, rfl⟩ : ∃ k, j = k + 1 := ⟨j - 1, by omega⟩
  rw [Sort.insInner]
  simp only [Nat.add_sub_cancel] at hl ⊢
  simp [hj, hl]
theorem insInner_stop (a j : Nat) (d : Array Int) (h : j ≤ a ∨ Sort.ltInt d[j]! d[j - 1]! = false) : Sort.insInner Sort.ltInt a j d = d := by
  cases j with
  | zero => rw [Sort.insInner]
  | succ k =>
    rw [Sort.insInner]
    simp only [Nat.add_sub_cancel] at h
    rcases h with h | h
    · simp [show ¬ k + 1 > a by omega]
    · simp [h]
theorem insOuter_go (a b i : Nat) (d : Array Int) (h : i < b) : Sort.insOuter Sort.ltInt a b i d = Sort.insOuter Sort.ltInt a b (i + 1) (Sort.insInner Sort.ltInt a i d) := by rw [Sort.insOuter, if_pos h]
theorem insOuter_stop (a b i : Nat) (d : Array Int) (h : ¬ i < b) : Sort.insOuter Sort.ltInt a b i d = d := by rw [Sort.insOuter, if_neg h]

set_option maxHeartbeats 4000000 in
set_option maxRecDepth 100000 in
/-- insertionSortOrdered. -/
theorem ins_any (base g a b n cap : Nat) (d : Array Int) (w0 w : World) (h : Srt base g w0 w n cap d) (hab : a ≤ b) (hb : b ≤ n) :
    Calls Yba.prog 18 #[.slice (some ⟨g, 0, none⟩) n cap, .int .i64 a, .int .i64 b] w fun e w' => e = .returned (.tuple #[]) ∧ Srt base g w0 w' n cap (Sort.insertionSort Sort.ltInt d a b) := by
  have hsm := h.small
  have HS := hide h
  have HR := hide (show Sort.insOuter Sort.ltInt a b (a + 1) d = Sort.insertionSort Sort.ltInt d a b from rfl)
  generalize Sort.insertionSort Sort.ltInt d a b = R at HR ⊢
  clear h
  go_enter Yba.func18, Yba.ntmps18
  go_wp2_with fail
  go_loopw [6] (fun vi wr => ∃ (i : Nat) (dk : Array Int), vi = .int .i64 i ∧ a < i ∧ i ≤ b + 1 ∧ Hid (Srt base g w0 wr n cap dk) ∧ Hid (Sort.insOuter Sort.ltInt a b i dk = R)) (fun vi _ => b + 1 - (intOf vi).toNat)
  case atStart => exact ⟨a + 1, d, by go_num, by omega, by omega, HS, HR⟩
  case round =>
    clear HS HR
    obtain ⟨i, dk, rfl, hai, hib, HS, HR⟩ := hrel
    by_cases hlt : i < b
    · go_wp2_with fail
      go_loopw [7] (fun vj wr2 => ∃ (j : Nat) (dj : Array Int), vj = .int .i64 j ∧ a ≤ j ∧ j ≤ i ∧ Hid (Srt base g w0 wr2 n cap dj) ∧ Hid (Sort.insInner Sort.ltInt a j dj = Sort.insInner Sort.ltInt a i dk)) (fun vj _ => (intOf vj).toNat)
      case atStart => exact ⟨i, dk, rfl, by omega, by omega, HS, hide rfl⟩
      case round =>
        clear HS
        obtain ⟨j, dj, rfl, haj, hji, HS, HI⟩ := hrel
        obtain ⟨G, hG⟩ : ∃ G : Nat → Int, ∀ t, G t = dj[t]! := ⟨fun t => dj[t]!, fun _ => rfl⟩
        have hcw : ∀ t, t < n → wr.cell? ⟨g, t, none⟩ = some (.int .i32 (G t)) := fun t ht => by rw [hG]; exact HS.out.cell t ht
        have hfw : ∀ t, t < n → wr.frozen? ⟨g, t, none⟩ = false := fun t _ => HS.out.froz t
        have HG := hide hG
        clear hG
        by_cases hja : a < j
        · have c0 := hcw j (by omega)
          have c1 := hcw (j - 1) (by omega)
          have f0 := hfw j (by omega)
          have f1 := hfw (j - 1) (by omega)
          have n0 : j < n := by omega
          have n1 : j - 1 < n := by omega
          by_cases hl : Sort.ltInt (G j) (G (j - 1)) = true
          · go_wp2_with fail
            go_quiet (first | (go_at_call 24; refine Calls.quiet_of_same (less_any _ _ _)))
            go_wp2_with fail
            go_region
            all_goals go_wp2
            refine ⟨⟨j - 1, Sort.swp dj j (j - 1), by simp; omega, by omega, by omega, hide ?_, hide ((insInner_go a j dj hja (by rw [← HG.out, ← HG.out]; exact hl)).symm.trans HI.out)⟩, by simp [intOf]; omega⟩
            rw [HG.out, HG.out]
            exact (HS.out.drewN _).swap j (j - 1)
          · have hl' : Sort.ltInt (G j) (G (j - 1)) = false := by simpa using hl
            go_wp2_with fail
            go_quiet (first | (go_at_call 24; refine Calls.quiet_of_same (less_any _ _ _)))
            go_wp2_with fail
            exact ⟨⟨i + 1, dj, by simp, by omega, by omega, hide (HS.out.drewN _), hide (by rw [← HR.out, insOuter_go _ _ _ _ hlt, ← HI.out, insInner_stop _ _ _ (Or.inr (by rw [← HG.out, ← HG.out]; exact hl'))])⟩, by simp [intOf]; omega⟩
        · go_wp2_with fail
          go_quiet (first | (go_at_call 24; refine Calls.quiet_of_same (less_any _ _ _)))
          go_wp2_with fail
          exact ⟨⟨i + 1, dj, by simp, by omega, by omega, hide (HS.out.drewN _), hide (by rw [← HR.out, insOuter_go _ _ _ _ hlt, ← HI.out, insInner_stop _ _ _ (Or.inl (by omega))])⟩, by simp [intOf]; omega⟩
    · go_wp2
      go_end0
      refine ⟨rfl, ?_⟩
      rw [← HR.out, insOuter_stop _ _ _ _ hlt]
      exact HS.out
end Go.Proofs.Ybulkdtay
