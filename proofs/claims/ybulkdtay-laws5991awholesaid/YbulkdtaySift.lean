import Derived.Test.YbulkdtayRow
namespace Go.Proofs.Ybulkdtay
open Go.RowKit

theorem sift_leaf (hi f r : Nat) (d : Array Int) (h : hi ≤ 2 * r + 1) : Sort.siftDown Sort.ltInt hi f r d = d := by rw [Sort.siftDown, dif_pos h]
theorem sift_right_stop (hi f r c : Nat) (d : Array Int) (hc : c = 2 * r + 1) (h : c + 1 < hi) (hl : Sort.ltInt d[f + c]! d[f + c + 1]! = true) (hs : Sort.ltInt d[f + r]! d[f + c + 1]! = false) : Sort.siftDown Sort.ltInt hi f r d = d := by
  subst hc
  have e : f + (2 * r + 2) = f + (2 * r + 1) + 1 := by omega
  rw [Sort.siftDown, dif_neg (by omega), if_pos (by simp [hl]; omega), e, if_pos (by simp [hs])]
theorem sift_right_go (hi f r c : Nat) (d : Array Int) (hc : c = 2 * r + 1) (h : c + 1 < hi) (hl : Sort.ltInt d[f + c]! d[f + c + 1]! = true) (hs : Sort.ltInt d[f + r]! d[f + c + 1]! = true) : Sort.siftDown Sort.ltInt hi f r d = Sort.siftDown Sort.ltInt hi f (c + 1) (Sort.swp d (f + r) (f + c + 1)) := by
  subst hc
  have e : f + (2 * r + 2) = f + (2 * r + 1) + 1 := by omega
  rw [Sort.siftDown, dif_neg (by omega), if_pos (by simp [hl]; omega), e, if_neg (by simp [hs]), dif_pos (by omega)]
theorem sift_left_stop (hi f r c : Nat) (d : Array Int) (hc : c = 2 * r + 1) (h : c < hi) (hl : c + 1 < hi → Sort.ltInt d[f + c]! d[f + c + 1]! = false) (hs : Sort.ltInt d[f + r]! d[f + c]! = false) : Sort.siftDown Sort.ltInt hi f r d = d := by
  subst hc
  rw [Sort.siftDown, dif_neg (by omega), if_neg (by intro hh; simp only [Bool.and_eq_true, decide_eq_true_eq] at hh; have := hl hh.1; rw [hh.2] at this; cases this), if_pos (by simp [hs])]
theorem sift_left_go (hi f r c : Nat) (d : Array Int) (hc : c = 2 * r + 1) (h : c < hi) (hl : c + 1 < hi → Sort.ltInt d[f + c]! d[f + c + 1]! = false) (hs : Sort.ltInt d[f + r]! d[f + c]! = true) : Sort.siftDown Sort.ltInt hi f r d = Sort.siftDown Sort.ltInt hi f c (Sort.swp d (f + r) (f + c)) := by
  subst hc
  rw [Sort.siftDown, dif_neg (by omega), if_neg (by intro hh; simp only [Bool.and_eq_true, decide_eq_true_eq] at hh; have := hl hh.1; rw [hh.2] at this; cases this), if_neg (by simp [hs])]

set_option maxHeartbeats 4000000 in
set_option maxRecDepth 100000 in
/-- siftDownOrdered. -/
theorem sift_any (base g lo hi f n cap : Nat) (d : Array Int) (w0 w : World) (h : Srt base g w0 w n cap d) (hlo : lo ≤ n) (hh : f + hi ≤ n) :
    Calls Yba.prog 29 #[.slice (some ⟨g, 0, none⟩) n cap, .int .i64 lo, .int .i64 hi, .int .i64 f] w fun e w' => e = .returned (.tuple #[]) ∧ Srt base g w0 w' n cap (Sort.siftDown Sort.ltInt hi f lo d) := by
  have hsm := h.small
  have HS := hide h
  generalize hRR : Sort.siftDown Sort.ltInt hi f lo d = R
  have HR : Hid (Sort.siftDown Sort.ltInt hi f lo d = R) := hide hRR
  clear h hRR
  go_enter Yba.func29, Yba.ntmps29
  go_wp2_with fail
  go_loopw [8] (fun vi wr => ∃ (r : Nat) (dk : Array Int), vi = .int .i64 r ∧ r ≤ 4096 ∧ Hid (Srt base g w0 wr n cap dk) ∧ Hid (Sort.siftDown Sort.ltInt hi f r dk = R)) (fun vi _ => 4097 - (intOf vi).toNat)
  case atStart => exact ⟨lo, d, rfl, by omega, HS, HR⟩
  case round =>
    clear HS HR
    obtain ⟨r, dk, rfl, hr, HS, HR⟩ := hrel
    go_upto_region 2 with fail
    obtain ⟨c, hc⟩ : ∃ c : Nat, c = 2 * r + 1 := ⟨_, rfl⟩
    have ec : (2 * (r : Int) + 1) = (c : Int) := by omega
    have hrc : r < c := by omega
    rw [ec]
    have HC := hide hc
    clear hc ec
    by_cases h1 : hi ≤ c
    · go_wp2
      go_end0
      refine ⟨rfl, ?_⟩
      rw [← HR.out, sift_leaf _ _ _ _ (by have := HC.out; omega)]
      exact HS.out
    obtain ⟨G, hG⟩ : ∃ G : Nat → Int, ∀ t, G t = dk[t]! := ⟨fun t => dk[t]!, fun _ => rfl⟩
    have hcw : ∀ t, t < n → wr.cell? ⟨g, t, none⟩ = some (.int .i32 (G t)) := fun t ht => by rw [hG]; exact HS.out.cell t ht
    have hfw : ∀ t, t < n → wr.frozen? ⟨g, t, none⟩ = false := fun t _ => HS.out.froz t
    have HG := hide hG
    clear hG
    have c0 := hcw (f + r) (by omega)
    have f0 := hfw (f + r) (by omega)
    have n0 : f + r < n := by omega
    have c1 := hcw (f + c) (by omega)
    have f1 := hfw (f + c) (by omega)
    have n1 : f + c < n := by omega
    by_cases h2 : c + 1 < hi
    · have h2d : decide ((c : Int) + 1 < (hi : Int)) = true := by simp; omega
      have c2 := hcw (f + c + 1) (by omega)
      have f2 := hfw (f + c + 1) (by omega)
      have n2 : f + c + 1 < n := by omega
      by_cases hl : Sort.ltInt (G (f + c)) (G (f + c + 1)) = true
      · go_wp2_with fail
        go_quiet (first | (go_at_call 24; refine Calls.quiet_of_same (less_any _ _ _)))
        go_upto_region 5 with fail
        obtain ⟨k, hk⟩ : ∃ k : Nat, k = c + 1 := ⟨_, rfl⟩
        have ek : ((c : Int) + 1) = (k : Int) := by omega
        rw [ek]
        rw [HG.out, HG.out] at hl
        have HL := hide hl
        have HKK := hide hk
        clear hl c2 f2 n2 h2d ek
        have hkn : k < hi := by omega
        have hrk : r < k := by omega
        clear hk
        have HS2 := hide (HS.out.drewN nq)
        generalize wr.drewN nq = wq at HS2 ⊢
        have hcw : ∀ t, t < n → wq.cell? ⟨g, t, none⟩ = some (.int .i32 (G t)) := fun t ht => by rw [HG.out]; exact HS2.out.cell t ht
        have hfw : ∀ t, t < n → wq.frozen? ⟨g, t, none⟩ = false := fun t _ => HS2.out.froz t
        clear HS
        have c3 := hcw (f + k) (by omega)
        have f3 := hfw (f + k) (by omega)
        have n3 : f + k < n := by omega
        have c4 := hcw (f + r) (by omega)
        have f4 := hfw (f + r) (by omega)
        have n4 : f + r < n := by omega
        by_cases hs : Sort.ltInt (G (f + r)) (G (f + k)) = true
        · go_quiet (first | (go_at_call 24; refine Calls.quiet_of_same (less_any _ _ _)))
          go_wp2_with fail
          go_region
          all_goals go_wp2
          refine ⟨⟨k, Sort.swp dk (f + r) (f + k), by simp, by omega, hide ?_, hide ?_⟩, by simp [intOf]; omega⟩
          · rw [HG.out, HG.out]
            exact (HS2.out.drewN _).swap (f + r) (f + k)
          · rw [HG.out, HG.out] at hs
            rw [← HR.out, sift_right_go hi f r c dk HC.out h2 HL.out (by rw [show f + c + 1 = f + k by have := HKK.out; omega]; exact hs), show f + c + 1 = f + k by have := HKK.out; omega, show c + 1 = k by have := HKK.out; omega]
        · have hs' : Sort.ltInt (G (f + r)) (G (f + k)) = false := by simpa using hs
          go_quiet (first | (go_at_call 24; refine Calls.quiet_of_same (less_any _ _ _)))
          go_wp2
          refine bodyPost_ret (results_none rfl _ _ _) rfl ⟨rfl, ?_⟩
          rw [HG.out, HG.out] at hs'
          rw [← HR.out, sift_right_stop hi f r c dk HC.out h2 HL.out (by rw [show f + c + 1 = f + k by have := HKK.out; omega]; exact hs')]
          exact HS2.out.drewN _
      · have hl' : Sort.ltInt (G (f + c)) (G (f + c + 1)) = false := by simpa using hl
        go_wp2_with fail
        go_quiet (first | (go_at_call 24; refine Calls.quiet_of_same (less_any _ _ _)))
        go_upto_region 5 with fail
        rw [HG.out, HG.out] at hl'
        have HL := hide hl'
        clear hl hl' c2 f2 n2 h2d
        have HS2 := hide (HS.out.drewN nq)
        generalize wr.drewN nq = wq at HS2 ⊢
        have hcw : ∀ t, t < n → wq.cell? ⟨g, t, none⟩ = some (.int .i32 (G t)) := fun t ht => by rw [HG.out]; exact HS2.out.cell t ht
        have hfw : ∀ t, t < n → wq.frozen? ⟨g, t, none⟩ = false := fun t _ => HS2.out.froz t
        clear HS
        have c3 := hcw (f + c) (by omega)
        have f3 := hfw (f + c) (by omega)
        have n3 : f + c < n := by omega
        have c4 := hcw (f + r) (by omega)
        have f4 := hfw (f + r) (by omega)
        have n4 : f + r < n := by omega
        by_cases hs : Sort.ltInt (G (f + r)) (G (f + c)) = true
        · go_quiet (first | (go_at_call 24; refine Calls.quiet_of_same (less_any _ _ _)))
          go_wp2_with fail
          go_region
          all_goals go_wp2
          refine ⟨⟨c, Sort.swp dk (f + r) (f + c), by simp, by omega, hide ?_, hide ?_⟩, by simp [intOf]; omega⟩
          · rw [HG.out, HG.out]
            exact (HS2.out.drewN _).swap (f + r) (f + c)
          · rw [HG.out, HG.out] at hs
            rw [← HR.out, sift_left_go hi f r c dk HC.out (by omega) (fun _ => HL.out) hs]
        · have hs' : Sort.ltInt (G (f + r)) (G (f + c)) = false := by simpa using hs
          go_quiet (first | (go_at_call 24; refine Calls.quiet_of_same (less_any _ _ _)))
          go_wp2
          refine bodyPost_ret (results_none rfl _ _ _) rfl ⟨rfl, ?_⟩
          rw [HG.out, HG.out] at hs'
          rw [← HR.out, sift_left_stop hi f r c dk HC.out (by omega) (fun _ => HL.out) hs']
          exact HS2.out.drewN _
    · have h2d : decide ((c : Int) + 1 < (hi : Int)) = false := by simp; omega
      go_wp2_with fail
      go_quiet (first | (go_at_call 24; refine Calls.quiet_of_same (less_any _ _ _)))
      go_upto_region 5 with fail
      clear h2d
      have HS2 := hide (HS.out.drewN nq)
      generalize wr.drewN nq = wq at HS2 ⊢
      have hcw : ∀ t, t < n → wq.cell? ⟨g, t, none⟩ = some (.int .i32 (G t)) := fun t ht => by rw [HG.out]; exact HS2.out.cell t ht
      have hfw : ∀ t, t < n → wq.frozen? ⟨g, t, none⟩ = false := fun t _ => HS2.out.froz t
      clear HS
      have c3 := hcw (f + c) (by omega)
      have f3 := hfw (f + c) (by omega)
      have n3 : f + c < n := by omega
      have c4 := hcw (f + r) (by omega)
      have f4 := hfw (f + r) (by omega)
      have n4 : f + r < n := by omega
      by_cases hs : Sort.ltInt (G (f + r)) (G (f + c)) = true
      · go_quiet (first | (go_at_call 24; refine Calls.quiet_of_same (less_any _ _ _)))
        go_wp2_with fail
        go_region
        all_goals go_wp2
        refine ⟨⟨c, Sort.swp dk (f + r) (f + c), by simp, by omega, hide ?_, hide ?_⟩, by simp [intOf]; omega⟩
        · rw [HG.out, HG.out]
          exact (HS2.out.drewN _).swap (f + r) (f + c)
        · rw [HG.out, HG.out] at hs
          rw [← HR.out, sift_left_go hi f r c dk HC.out (by omega) (fun h => absurd h h2) hs]
      · have hs' : Sort.ltInt (G (f + r)) (G (f + c)) = false := by simpa using hs
        go_quiet (first | (go_at_call 24; refine Calls.quiet_of_same (less_any _ _ _)))
        go_wp2
        refine bodyPost_ret (results_none rfl _ _ _) rfl ⟨rfl, ?_⟩
        rw [HG.out, HG.out] at hs'
        rw [← HR.out, sift_left_stop hi f r c dk HC.out (by omega) (fun h => absurd h h2) hs']
        exact HS2.out.drewN _
end Go.Proofs.Ybulkdtay
