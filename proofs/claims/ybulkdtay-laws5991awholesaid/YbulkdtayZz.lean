import Derived.Test.YbulkdtayEq
import Derived.Laws.CopyOwn
import Derived.Laws.CopyRow
namespace Go.Proofs.Ybulkdtay
open Go.RowKit

theorem size21 : (Yba.prog.info? 21).map (·.size) = some 1 := by kernel_rfl
theorem made_block {w : World} {base g n : Nat} {xs : List Value} (h : w.ownsRow base 21 1 (.slice (some ⟨g, 0, none⟩) n n) n xs) : ∃ cur : List Value, w.heap[g]? = some (.cells cur.toArray 21 (0, 0)) ∧ cur.length = n := by
  rcases h.2 with ⟨h', _⟩ | ⟨g', cap', cur, h', _, hg, _, _, hs, _⟩
  · simp at h'
  · simp only [Value.slice.injEq, Option.some.injEq, Addr.mk.injEq, and_true, true_and] at h'
    obtain ⟨rfl, rfl⟩ := h'
    exact ⟨cur.toList, by simpa using hg, by simpa using hs⟩
theorem splice_all (cur cs : List Value) (h : cs.length = cur.length) : splice cur 0 cs = cs := by simp [splice, h]
theorem swp_comm (d : Array Int) (i j : Nat) (h : i ≠ j) : Sort.swp d i j = Sort.swp d j i := by
  simp only [Sort.swp]
  rw [Array.setIfInBounds_comm _ _ (by omega)]
theorem vals_one (k : IntKind) (zs : List Int) : ∀ v ∈ vals k zs, v.oneCell' = true := by
  intro v hv
  simp only [vals, List.mem_map] at hv
  obtain ⟨s, _, rfl⟩ := hv
  rfl

set_option maxHeartbeats 1000000 in
set_option maxRecDepth 100000 in
theorem zz_zero (a : Option Addr) (cap : Nat) (w : World) : Calls Yba.prog 6 #[.slice a 0 cap] w fun e w' => e = .returned (.slice (some ⟨w.heap.size, 0, none⟩) 0 0) ∧ Below w.heap.size w w' := by
  obtain ⟨i0, hi, hz0, hz1, hz2⟩ := info_parts info21
  have hcpy := fun (wx : World) (dp sp : Option Addr) (dCap sCap : Nat) => run_copy_none (P := Yba.prog) wx 23 23 3 21 dp sp 0 dCap 0 sCap Yba.underlying23 size21 rfl
  go_enter Yba.func6, Yba.ntmps6
  go_wp2_with (at_make; refine wpList_make_full _ rfl _ _ 23 rfl w.heap.size 21 i0 (.int .i32 0) 1 Yba.underlying23 hi hz0 hz1 _ _ _ _ 0 rfl rfl rfl rfl (by omega) (by unfold maxLen; omega) (Nat.le_refl _) ?_)
  intro w1 hown hgrow
  have HB := hide ((Below.refl w.heap.size w).grown hgrow (Nat.le_refl _) (fun k hk => by cases hk))
  clear hown hgrow
  go_wp2_with fail
  refine wp_loop_rounds 1 ?_
  rw [rounds_succ]
  go_wp2_with fail
  go_ret
  exact ⟨rfl, HB.out⟩

set_option maxHeartbeats 4000000 in
set_option maxRecDepth 100000 in
theorem zz_pos (b off len cap : Nat) (zs : List Int) (w : World) (hsz : zs.length = len) (h0 : 0 < len) (hsm : len ≤ 4096) (hb : b < w.heap.size)
    (hc : ∀ j, j < len → w.cell? ⟨b, off + j, none⟩ = some (.int .i32 (zs[j]?.getD 0))) :
    Calls Yba.prog 6 #[.slice (some ⟨b, off, none⟩) len cap] w fun e w' => e = .returned (.slice (some ⟨w.heap.size, 0, none⟩) len len) ∧ Below w.heap.size w w' ∧ ∃ d', Srt w.heap.size w.heap.size w' w' len len d' ∧ d'.toList = srt zs := by
  obtain ⟨i0, hi, hz0, hz1, hz2⟩ := info_parts info21
  have HC := hide hc
  have HZ := hide hsz
  clear hc hsz
  go_enter Yba.func6, Yba.ntmps6
  go_wp2_with (at_make; refine wpList_make_full _ rfl _ _ 23 rfl w.heap.size 21 i0 (.int .i32 0) 1 Yba.underlying23 hi hz0 hz1 _ _ _ _ len rfl rfl rfl rfl (by rw [hz2]; omega) (by unfold maxLen; omega) (Nat.le_refl _) ?_)
  intro w1 hown hgrow
  obtain ⟨cur, hcur, hcl⟩ := made_block hown
  have hb1 : Below w.heap.size w w1 := (Below.refl _ _).grown hgrow (Nat.le_refl _) (fun k hk => by cases hk)
  clear hown hgrow
  have hz := HZ.out
  have k1 : (vals .i32 zs).length = Nat.min len len := by rw [show (vals .i32 zs).length = len by simp [vals, hz]]; exact (Nat.min_self len).symm
  have k2 : ∀ j v, (vals .i32 zs)[j]? = some v → w1.cell? ((⟨b, off, none⟩ : Addr).add j) = some v := fun j v hv => by
    have hj : j < zs.length := by
      have := (List.getElem?_eq_some_iff.1 hv).1
      simpa [vals] using this
    rw [vals_at .i32 zs j hj] at hv
    cases hv
    rw [Addr.add_lit]
    exact (hb1.cell (p := ⟨b, off + j, none⟩) hb).trans (HC.out j (by omega))
  have k3 : 0 + (vals .i32 zs).length ≤ cur.toArray.size := by simp [vals]; omega
  have hrun := run_copy_row (P := Yba.prog) w1 23 23 3 21 w.heap.size 0 len len ⟨b, off, none⟩ len cap cur.toArray 21 (vals .i32 zs) Yba.underlying23 size21 hcur k1 k2 k3 (vals_one _ _)
  have hblk : (w1.setRow w.heap.size (cur.toArray.toList.take 0 ++ vals .i32 zs ++ cur.toArray.toList.drop (0 + (vals .i32 zs).length)).toArray).heap[w.heap.size]? = some (.cells (vals .i32 zs).toArray 21 (0, 0)) := by
    rw [setRow_heap w1 _ _ _ 21 _ hcur]
    simp [vals, hz, hcl]
  have hb2 := below_setRow hb1 (Nat.le_refl _) (cur.toArray.toList.take 0 ++ vals .i32 zs ++ cur.toArray.toList.drop (0 + (vals .i32 zs).length)).toArray
  generalize w1.setRow w.heap.size (cur.toArray.toList.take 0 ++ vals .i32 zs ++ cur.toArray.toList.drop (0 + (vals .i32 zs).length)).toArray = w2 at hrun hblk hb2
  have HS : Hid (Srt w.heap.size w.heap.size w2 w2 len len zs.toArray) := hide ⟨⟨by simp [i32s, hz], .inr ⟨w.heap.size, len, (vals .i32 zs).toArray, rfl, Nat.le_refl _, hblk, Nat.le_refl _, by unfold maxLen; omega, by simp [vals, hz], by simp only [vals, i32s, Nat.mul_one]; exact List.take_of_length_le (by simp [hz])⟩⟩, ⟨rfl, rfl, rfl, Nat.le_refl _, fun _ _ _ => rfl⟩, by simp [hz], hsm⟩
  have HB := hide hb2
  have HW : Hid (w.heap.size < w2.heap.size) := hide (Array.getElem?_eq_some_iff.1 hblk).1
  clear hcur hcl hb1 hz k1 k2 k3 hblk hb2 HC
  go_wp2_with fail
  clear hrun
  have HR := hide (show Sort.insOuter Sort.ltInt 0 len 1 zs.toArray = Sort.insertionSort Sort.ltInt zs.toArray 0 len from rfl)
  generalize hg : w.heap.size = g at HS HB HW ⊢
  have HG := hide hg
  clear hg
  obtain ⟨R, hR⟩ : ∃ R, R = Sort.insertionSort Sort.ltInt zs.toArray 0 len := ⟨_, rfl⟩
  have HI : Hid (R.toList = srt zs) := by
    have hz := HZ.out
    obtain ⟨p1, p2⟩ := Sort.insertionSort_holds swo zs.toArray 0 len (Nat.zero_le _) (by simp [hz])
    rw [← hR] at p1 p2
    exact hide (srt_unique zs.toArray R (by simp [hz]; exact p1) (by simp [hz]; exact p2))
  rw [← hR] at HR
  clear hR
  go_loopw [4] (fun vi wr => ∃ (i : Nat) (dk : Array Int), vi = .int .i64 i ∧ 0 < i ∧ i ≤ len + 1 ∧ Hid (Srt g g w2 wr len len dk) ∧ Hid (Sort.insOuter Sort.ltInt 0 len i dk = R)) (fun vi _ => len + 1 - (intOf vi).toNat)
  case atStart => exact ⟨1, zs.toArray, by go_num, by omega, by omega, HS, HR⟩
  case round =>
    clear HS HR
    obtain ⟨i, dk, rfl, hai, hib, HS, HR⟩ := hrel
    by_cases hlt : i < len
    · go_wp2_with fail
      go_loopw [5] (fun vj wr2 => ∃ (j : Nat) (dj : Array Int), vj = .int .i64 j ∧ j ≤ i ∧ Hid (Srt g g w2 wr2 len len dj) ∧ Hid (Sort.insInner Sort.ltInt 0 j dj = Sort.insInner Sort.ltInt 0 i dk)) (fun vj _ => (intOf vj).toNat)
      case atStart => exact ⟨i, dk, rfl, by omega, HS, hide rfl⟩
      case round =>
        clear HS
        obtain ⟨j, dj, rfl, hji, HS, HI2⟩ := hrel
        obtain ⟨G, hG⟩ : ∃ G : Nat → Int, ∀ t, G t = dj[t]! := ⟨fun t => dj[t]!, fun _ => rfl⟩
        have hcw : ∀ t, t < len → wr.cell? ⟨g, t, none⟩ = some (.int .i32 (G t)) := fun t ht => by rw [hG]; exact HS.out.cell t ht
        have hfw : ∀ t, t < len → wr.frozen? ⟨g, t, none⟩ = false := fun t _ => HS.out.froz t
        have HGd := hide hG
        clear hG
        by_cases hja : 0 < j
        · have c0 := hcw j (by omega)
          have c1 := hcw (j - 1) (by omega)
          have f0 := hfw j (by omega)
          have f1 := hfw (j - 1) (by omega)
          have n0 : j < len := by omega
          have n1 : j - 1 < len := by omega
          have hne : ¬ j - 1 = j := by omega
          have hne' : ¬ j = j - 1 := by omega
          by_cases hl : G j < G (j - 1)
          · have hd : decide (G j < G (j - 1)) = true := by simp [hl]
            go_wp2_with fail
            go_quiet (fail)
            go_wp2_with fail
            refine ⟨⟨j - 1, Sort.swp dj j (j - 1), by simp; omega, by omega, hide ?_, hide ((insInner_go 0 j dj hja (by rw [← HGd.out, ← HGd.out]; exact hd)).symm.trans HI2.out)⟩, by simp [intOf]; omega⟩
            rw [HGd.out, HGd.out, swp_comm dj j (j - 1) (by omega)]
            exact (HS.out.drewN _).swap (j - 1) j
          · have hd : decide (G j < G (j - 1)) = false := by simp [hl]
            go_wp2_with fail
            go_quiet (fail)
            go_wp2_with fail
            exact ⟨⟨i + 1, dj, by simp, by omega, by omega, hide (HS.out.drewN _), hide (by rw [← HR.out, insOuter_go _ _ _ _ hlt, ← HI2.out, insInner_stop _ _ _ (Or.inr (by rw [← HGd.out, ← HGd.out]; exact hd))])⟩, by simp [intOf]; omega⟩
        · go_wp2_with fail
          go_quiet (fail)
          go_wp2_with fail
          exact ⟨⟨i + 1, dj, by simp, by omega, by omega, hide (HS.out.drewN _), hide (by rw [← HR.out, insOuter_go _ _ _ _ hlt, ← HI2.out, insInner_stop _ _ _ (Or.inl (by omega))])⟩, by simp [intOf]; omega⟩
    · go_wp2_with fail
      go_ret
      have hd : dk = R := by rw [← HR.out, insOuter_stop _ _ _ _ hlt]
      rw [HG.out]
      exact ⟨rfl, HB.out.grown HS.out.gr (Nat.le_of_lt HW.out) (fun k e => by cases e; exact Nat.le_refl _), dk, ⟨HS.out.own, ⟨rfl, rfl, rfl, Nat.le_refl _, fun _ _ _ => rfl⟩, HS.out.sz, HS.out.small⟩, by rw [hd]; exact HI.out⟩

/-- zzs5991asorted: a sorted copy. -/
theorem zz_any (a : Option Addr) (len cap : Nat) (zs : List Int) (w : World) (hsm : len ≤ 4096) (h : Rd .i32 w.heap.size w a len cap zs) :
    Calls Yba.prog 6 #[.slice a len cap] w fun e w' => ∃ g, e = .returned (.slice (some ⟨g, 0, none⟩) len len) ∧ Below w.heap.size w w' ∧ Rd .i32 w'.heap.size w' (some ⟨g, 0, none⟩) len len (srt zs) := by
  have hsz := h.sz
  rcases Nat.eq_zero_or_pos len with rfl | hp
  · refine (zz_zero a cap w).mono ?_
    rintro e w' ⟨rfl, hb⟩
    exact ⟨_, rfl, hb, ⟨by rw [srt_length]; exact hsz, Nat.le_refl _, fun h => by (cases h), .inl rfl⟩⟩
  · rcases h.at' with h0 | ⟨b, off, rfl, hb, hc⟩
    · omega
    · refine (zz_pos b off len cap zs w hsz hp hsm hb hc).mono ?_
      rintro e w' ⟨rfl, hbel, d', hS, hd⟩
      have ho := hS.own
      have e1 : i32s d' = vals .i32 (srt zs) := by simp [i32s, vals, hd]
      have e2 : (srt zs).length = len := by rw [srt_length]; exact hsz
      rw [e1] at ho
      have r := rd_of_own (k := .i32) (zs := srt zs) (by rw [e2]; exact ho)
      rw [e2] at r
      exact ⟨_, rfl, hbel, r⟩
end Go.Proofs.Ybulkdtay
