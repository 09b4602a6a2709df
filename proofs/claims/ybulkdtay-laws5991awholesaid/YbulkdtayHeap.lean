import Derived.Test.YbulkdtaySift
namespace Go.Proofs.Ybulkdtay
open Go.RowKit

set_option maxHeartbeats 4000000 in
set_option maxRecDepth 100000 in
/-- heapSortOrdered. -/
theorem heap_any (base g a b n cap : Nat) (d : Array Int) (w0 w : World) (h : Srt base g w0 w n cap d) (hab : a < b) (hb : b ≤ n) :
    Calls Yba.prog 19 #[.slice (some ⟨g, 0, none⟩) n cap, .int .i64 a, .int .i64 b] w fun e w' => e = .returned (.tuple #[]) ∧ Srt base g w0 w' n cap (Sort.heapSort Sort.ltInt d a b) := by
  have hsm := h.small
  have HS := hide h
  obtain ⟨hi, hhi⟩ : ∃ hi : Nat, hi = b - a := ⟨_, rfl⟩
  have ehi : (b : Int) - (a : Int) = (hi : Int) := by omega
  have hh0 : 0 < hi := by omega
  have hhn : a + hi ≤ n := by omega
  have e2 : ((hi : Int) - 1) / 2 = (((hi - 1) / 2 : Nat) : Int) := by omega
  obtain ⟨q, hq⟩ : ∃ q : Nat, q = (hi - 1) / 2 := ⟨_, rfl⟩
  have e3 : Sort.heapSort Sort.ltInt d a b = Sort.heapPop Sort.ltInt a hi (Sort.heapBuild Sort.ltInt hi a (q + 1) d) := by rw [Sort.heapSort, ← hhi, ← hq]
  rw [← hq] at e2
  have hqn : q ≤ n := by omega
  rw [e3]
  generalize hH : Sort.heapBuild Sort.ltInt hi a (q + 1) d = H
  have HH : Hid (Sort.heapBuild Sort.ltInt hi a (q + 1) d = H) := hide hH
  generalize hR : Sort.heapPop Sort.ltInt a hi H = R
  have HR : Hid (Sort.heapPop Sort.ltInt a hi H = R) := hide hR
  have E2 := hide e2
  have EHI := hide ehi
  clear h hhi hq e3 hH hR e2 ehi
  go_enter Yba.func19, Yba.ntmps19
  go_upto_region 3 with fail
  rw [EHI.out]
  go_wp2_with fail
  rw [E2.out]
  rename_i K1 aK1
  have HK := hide aK1
  clear aK1
  go_loopw [9] (fun vi wr => ∃ (k : Nat) (dk : Array Int), vi = .int .i64 ((k : Int) - 1) ∧ k ≤ q + 1 ∧ Hid (Srt base g w0 wr n cap dk) ∧ Hid (Sort.heapBuild Sort.ltInt hi a k dk = H)) (fun vi _ => (intOf vi + 1).toNat)
  case atStart => exact ⟨q + 1, d, by simp, by omega, HS, HH⟩
  case round =>
    clear HS HH
    obtain ⟨k, dk, rfl, hk, HS, HH⟩ := hrel
    by_cases h0 : k = 0
    · subst h0
      go_wp2_with fail
      refine HK.out _ _ ?_
      clear HK
      generalize (((0 : Nat) : Int) - 1) = x9
      have hH : dk = H := HH.out
      subst hH
      go_wp2_with fail
      go_loopw [10] (fun vi wr => ∃ (k : Nat) (dj : Array Int), vi = .int .i64 ((k : Int) - 1) ∧ k ≤ hi ∧ Hid (Srt base g w0 wr n cap dj) ∧ Hid (Sort.heapPop Sort.ltInt a k dj = R)) (fun vi _ => (intOf vi + 1).toNat)
      case atStart => exact ⟨hi, dk, rfl, by omega, HS, HR⟩
      case round =>
        clear HS HR HH
        obtain ⟨k, dj, rfl, hk2, HS, HR⟩ := hrel
        by_cases h0 : k = 0
        · subst h0
          go_wp2
          go_end0
          refine ⟨rfl, ?_⟩
          rw [← HR.out]
          exact HS.out
        · obtain ⟨m, rfl⟩ : ∃ m, k = m + 1 := ⟨k - 1, by omega⟩
          have em : (((m + 1 : Nat) : Int) - 1) = (m : Int) := by omega
          rw [em]
          clear em
          obtain ⟨G, hG⟩ : ∃ G : Nat → Int, ∀ t, G t = dj[t]! := ⟨fun t => dj[t]!, fun _ => rfl⟩
          have hcw : ∀ t, t < n → wr.cell? ⟨g, t, none⟩ = some (.int .i32 (G t)) := fun t ht => by rw [hG]; exact HS.out.cell t ht
          have hfw : ∀ t, t < n → wr.frozen? ⟨g, t, none⟩ = false := fun t _ => HS.out.froz t
          have HG := hide hG
          clear hG
          by_cases hm0 : m = 0
          · subst hm0
            have c0 := hcw (a) (by omega)
            have f0 := hfw (a) (by omega)
            have n0 : a < n := by omega
            go_wp2_with fail
            go_region
            all_goals go_wp2_with fail
            have hs2 : Srt base g w0 (((wr.setCell ⟨g, a, none⟩ (.int .i32 (G (a)))).setCell ⟨g, a, none⟩ (.int .i32 (G a))).drew) n cap (Sort.swp dj a (a + 0)) := by
              rw [HG.out]
              exact (HS.out.swap a a).drew
            refine (sift_any base g 0 0 a n cap _ w0 _ hs2 (by omega) (by omega)).mono ?_
            rintro e w1 ⟨rfl, hs1⟩
            go_wp2
            go_roundw
            case rel => exact ⟨0, _, by go_num, by omega, hide hs1, HR⟩
            case measure => simp [intOf]
          · skip
            have c0 := hcw (a) (by omega)
            have f0 := hfw (a) (by omega)
            have n0 : a < n := by omega
            have c1 := hcw (a + m) (by omega)
            have f1 := hfw (a + m) (by omega)
            have n1 : a + m < n := by omega
            have hne : a ≠ a + m := by omega
            go_wp2_with fail
            go_region
            all_goals go_wp2_with fail
            have hs2 : Srt base g w0 (((wr.setCell ⟨g, a, none⟩ (.int .i32 (G (a + m)))).setCell ⟨g, a + m, none⟩ (.int .i32 (G a))).drew) n cap (Sort.swp dj a (a + m)) := by
              rw [HG.out, HG.out]
              exact (HS.out.swap a (a + m)).drew
            refine (sift_any base g 0 m a n cap _ w0 _ hs2 (by omega) (by omega)).mono ?_
            rintro e w1 ⟨rfl, hs1⟩
            go_wp2
            go_roundw
            case rel => exact ⟨m, _, by go_num, by omega, hide hs1, HR⟩
            case measure => simp [intOf]
    · obtain ⟨m, rfl⟩ : ∃ m, k = m + 1 := ⟨k - 1, by omega⟩
      have em : (((m + 1 : Nat) : Int) - 1) = (m : Int) := by omega
      rw [em]
      go_wp2_with (go_at_call 29; refine (sift_any base g m hi a n cap dk w0 wr HS.out (by omega) hhn).mono ?_; rintro e w1 ⟨rfl, hs1⟩)
      exact ⟨⟨m, _, by simp, by omega, hide hs1, HH⟩, by simp [intOf]⟩
end Go.Proofs.Ybulkdtay
