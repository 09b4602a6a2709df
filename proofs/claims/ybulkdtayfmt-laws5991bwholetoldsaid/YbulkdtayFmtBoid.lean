import Derived.Test.YbulkdtayFmtOid
import Derived.Deep.Cut
namespace Go.Proofs.YbulkdtayFmt
open Go.RowKit Go.Extern.Stop Go.Stop Go.Extern

theorem append_mixed (ty : TypeId) (p q : Option Addr) (n c m d : Nat) (w : World) : (Builtin.append_ #[28, 27] ty #[.slice p n c, .slice q m d]).run Ybaf.prog w = (Builtin.append_ #[28, 28] ty #[.slice p n c, .slice q m d]).run Ybaf.prog w := by
  simp [Builtin.append_, run_underlying Ybaf.underlying28, run_underlying Ybaf.underlying27]

/-- 'append(o, subs[1:]...)': the two slice types differ in name alone. -/
theorem wpList_append_mixed (w : World) {ops : Array Oper} {rest : List Oper} {o : Oper} {a : Act} {Q : Exit → Act → World → Prop}
    (hg : o.guard = none) (s x : Operand) (hop : o.op = Op.call { callee := Callee.builtin Builtin.append, args := #[s, x], argTypes := #[28, 27] })
    (base : Nat) (i : TypeInfo) (h2 : Ybaf.prog.info? 56 = some i) (h4 : i.size = 1)
    (g k cap : Nat) (xs : List Value) (hs : a.eval s = .slice (some ⟨g, 0, none⟩) k cap) (hown : w.ownsRow base 56 1 (.slice (some ⟨g, 0, none⟩) k cap) k xs) (ad : Addr) (m c : Nat) (news : List Value) (hx : a.eval x = .slice (some ad) m c) (hn : news.length = m)
    (hc : ∀ j u, news[j]? = some u → w.cell? (ad.add j) = some u) (h1c : ∀ u ∈ news, u.oneCell' = true) (b1 : k + m ≤ cap)
    (hK : ∀ w', w'.ownsRow base 56 1 (.slice (some ⟨g, 0, none⟩) (k + m) cap) (k + m) (xs ++ news) → w.grownBy w' (some g) → wpList Ybaf.prog ops Q rest (a.put o.dst (.slice (some ⟨g, 0, none⟩) (k + m) cap)) w') :
    wpList Ybaf.prog ops Q (o :: rest) a w := by
  refine wpList_plain hg fun K hK' => ?_
  obtain ⟨w', hrun, r1, r2⟩ := run_append_fits (P := Ybaf.prog) w base 28 o.type 56 i 1 Ybaf.underlying28 h2 h4 g k cap xs hown ad m c news (by omega) hc h1c b1
  unfold Oper.wp
  simp [execOp, hop, resolve, invoke, builtin, hs, hx, append_mixed, hrun, Result.andThen]
  exact hK' _ _ (hK w' r1 r2)

theorem cells_pair (w : World) (x y : Value) : ∀ j u, [x, y][j]? = some u → (w.alloc (.cells #[x, y] 56)).cell? ((⟨w.heap.size, 0, none⟩ : Addr).add j) = some u := by
  intro j u hu
  have hj : j = 0 ∨ j = 1 := by
    have := (List.getElem?_eq_some_iff.1 hu).1
    simp at this
    omega
  rw [Addr.add_lit, cell_at (heap_alloc_new _ _)]
  rcases hj with rfl | rfl
  · exact hu
  · exact hu
theorem pair_one (x y : Int) : ∀ u ∈ [Value.int .u32 x, Value.int .u32 y], u.oneCell' = true := by
  intro u hu
  simp at hu
  rcases hu with rfl | rfl <;> rfl
theorem u32s_one (xs : List Nat) : ∀ u ∈ u32s xs, u.oneCell' = true := by
  intro u hu
  simp [u32s] at hu
  obtain ⟨n, _, rfl⟩ := hu
  rfl
theorem tail_cells {w : World} {gg : Nat} {cur : Array Value} {f : Nat} {t : List Nat} (hgg : w.heap[gg]? = some (.cells cur 56 (0, 0))) (ht : cur.toList.take (t.length + 1) = u32s (f :: t)) :
    ∀ j u, (u32s t)[j]? = some u → w.cell? ((⟨gg, 1, none⟩ : Addr).add j) = some u := by
  intro j u hu
  have hj : j < t.length := by
    have := (List.getElem?_eq_some_iff.1 hu).1
    simpa [u32s] using this
  rw [Addr.add_lit, cell_at hgg, cur_at ht (by simp) (1 + j) (by omega), ← hu, u32s, List.getElem?_map, Nat.add_comm 1 j]
  simp [List.getElem?_eq_getElem hj]
theorem row_of_own {w : World} {base g n cap : Nat} {xs : List Value} {l : List Nat} (hl : n = l.length) (h1 : l.length ≤ 1048577) (h : w.ownsRow base 56 1 (.slice (some ⟨g, 0, none⟩) n cap) n xs) (hxs : xs = u32s l) : OidRow w (.slice (some ⟨g, 0, none⟩) n cap) (some l) := by
  subst hl
  subst hxs
  rcases h.2 with ⟨h', _⟩ | ⟨g', cap', cur, h', hb, hg, hc, hm, hs, ht⟩
  · cases h'
  · cases h'
    refine ⟨g, cap, rfl, ?_, h1, fun j hj => ?_⟩
    · rcases Nat.lt_or_ge g w.heap.size with h | h
      · exact h
      · rw [Array.getElem?_eq_none h] at hg; cases hg
    · rw [cell_at hg]
      rw [Nat.mul_one] at ht
      exact cur_at ht rfl j hj

set_option maxRecDepth 100000 in
theorem boid_bad (a : Option Addr) (len cap : Nat) (b : Nat → Nat) (w : World) (h : IsBytes w a len cap b) (hbad : len = 0 ∨ 128 ≤ b (len - 1)) :
    Calls Ybaf.prog 10 #[.slice a len cap] w fun e w' => e = .returned (.tuple #[.slice none 0 0, .bool false]) ∧ w' = w := by
  obtain ⟨hlc, hcm, hb, hc⟩ := h
  by_cases hz : len = 0
  · subst hz
    clear hc hbad
    go_enter Ybaf.func10, Ybaf.ntmps10
    go_wp2
    go_ret2
    exact ⟨rfl, rfl⟩
  · have hz' : ((len : Int) == 0) = false := by rw [beq_eq_false_iff_ne]; omega
    obtain ⟨g, off, rfl, hcell⟩ := hc (by omega)
    have hlast : 128 ≤ b (len - 1) := by rcases hbad with h | h; omega; exact h
    have cl : w.cell? ⟨g, off + (len - 1), none⟩ = some (.int .u8 (b (len - 1) : Nat)) := hcell (len - 1) (by omega)
    have hand : bits .and .u8 ((b (len - 1) : Nat) : Int) 128 = 128 := by rw [and128 _ (hb _), if_neg (by omega)]
    clear hc hbad hlast
    go_enter Ybaf.func10, Ybaf.ntmps10
    go_wp2
    go_ret2
    exact ⟨rfl, rfl⟩

set_option maxRecDepth 100000 in
set_option maxHeartbeats 8000000 in
theorem boid_ok (g off len cap : Nat) (b : Nat → Nat) (w : World) (hb : ∀ j, b j < 256) (hp : 0 < len) (hlen : len ≤ 1048576) (hgb : g < w.heap.size) (hcell : ∀ j, j < len → w.cell? ⟨g, off + j, none⟩ = some (.int .u8 (b j : Nat))) (hlast : b (len - 1) < 128) :
    Calls Ybaf.prog 10 #[.slice (some ⟨g, off, none⟩) len cap] w fun e w' => ∃ v, e = .returned (.tuple #[v, .bool (oidAns b len).isSome]) ∧ OidRow w' v (oidAns b len) ∧ Below w.heap.size w w' := by
  have hz' : ((len : Int) == 0) = false := by rw [beq_eq_false_iff_ne]; omega
  have cl : w.cell? ⟨g, off + (len - 1), none⟩ = some (.int .u8 (b (len - 1) : Nat)) := hcell (len - 1) (by omega)
  have hand : bits .and .u8 ((b (len - 1) : Nat) : Int) 128 = 0 := by rw [and128 _ (hb _), if_pos hlast]
  obtain ⟨i0, hi, hz0, hz1, hz2⟩ := info_parts Ybaf.info56
  have HC := hide hcell
  have HG := hide hgb
  have HB := hide hb
  have HL := hide hlast
  clear hcell hgb hb hlast
  go_enter Ybaf.func10, Ybaf.ntmps10
  go_wp2
  clear cl hand hz'
  have HB1 := hide (Below.refl w.heap.size w)
  generalize hBB : w.heap.size = B at *
  have HBB := hide hBB
  clear hBB
  go_loopw [4, 5] (fun o s wl => ∃ (st : Nat) (xs : List Nat), st ≤ len ∧ s = .int .i64 st ∧ Hid (ofold b st = some (0, xs)) ∧ Hid (wl.ownsRow B 56 1 o xs.length (u32s xs)) ∧ Hid (Below B w wl)) (fun _ s _ => len - (intOf s).toNat)
  case atStart => exact ⟨0, [], Nat.zero_le _, rfl, hide rfl, hide (World.ownsRow_nil _ _ _ _), HB1⟩
  case round =>
    clear HB1
    obtain ⟨st, xs, hst, rfl, HJ, HO, HW⟩ := hrel
    have hcw : ∀ j, j < len → wr.cell? ⟨g, off + j, none⟩ = some (.int .u8 (b j : Nat)) := fun j hj => by rw [HW.out.cell (by exact HG.out)]; exact HC.out j hj
    have HCW := hide hcw
    clear hcw
    have hxl := (ofold_fit HJ.out).2.2.1
    by_cases hlt : st < len
    · have hlt' : (st : Int) < (len : Int) := by omega
      go_wp2
      go_loop [6] (fun s => ∃ en : Nat, st ≤ en ∧ en < len ∧ s = .int .i64 en ∧ Hid (∀ k, st ≤ k → k < en → 128 ≤ b k)) (fun s => len - (intOf s).toNat)
      case atStart => exact ⟨st, by omega, by omega, rfl, hide (fun k h h' => by omega)⟩
      case round =>
        obtain ⟨en, hse, hen, rfl, HK⟩ := hrel
        have hc := HCW.out en hen
        have hbe := HB.out en
        have h128 := and128 (b en) hbe
        by_cases hx : b en < 128
        · rw [if_pos hx] at h128
          have HX := hide hx
          clear hx
          have cs := HCW.out st hlt
          by_cases hs128 : b st = 128
          · have hans : oidAns b len = none := oidAns_none (m := st + 1) (by rw [ofold, HJ.out]; exact ostep_bad ⟨rfl, hs128⟩) (by omega)
            have e128 : ((b st : Nat) : Int) = 128 := by omega
            clear hs128
            go_wp2
            go_ret2
            exact ⟨_, rfl, rfl, by rw [HBB.out]; exact HW.out⟩
          · have e128 : ((((b st : Nat) : Int)) == 128) = false := by rw [beq_eq_false_iff_ne]; omega
            have e128' : ¬ (((b st : Nat) : Int)) = 128 := by omega
            have HS := hide hs128
            clear hs128
            go_wp2
            clear e128 e128' cs hc h128 hbe
            go_loop [7, 8] (fun v i => ∃ (k n : Nat), st ≤ k ∧ k ≤ en + 1 ∧ i = .int .i64 k ∧ v = .int .u64 (n : Int) ∧ n ≤ 4294967295 ∧ Hid (k ≤ en → ofold b k = some (n, xs) ∧ (st < k → 0 < n)) ∧ Hid (k = en + 1 → ofold b k = some (0, xs ++ [n]))) (fun _ i => en + 1 - (intOf i).toNat)
            case atStart => exact ⟨st, 0, by omega, by omega, rfl, rfl, by omega, hide (fun _ => ⟨HJ.out, fun h => by omega⟩), hide (fun h => by omega)⟩
            case round =>
              obtain ⟨k, n, hsk, hke, rfl, rfl, hn, HN1, HN2⟩ := hrel
              by_cases hkl : k ≤ en
              · have hkl' : (k : Int) ≤ (en : Int) := by omega
                have hck := HCW.out k (by omega)
                have hbk := HB.out k
                generalize hxx : b k = x at hck hbk
                have HXX := hide hxx
                clear hxx
                have h127 := and127 x hbk
                have hor := u64_shl7p n x hn
                have hn0 : ¬ (n = 0 ∧ x = 128) := by
                  rintro ⟨rfl, rfl⟩
                  rcases Nat.lt_or_ge st k with h | h
                  · exact absurd ((HN1.out hkl).2 h) (by omega)
                  · obtain rfl : k = st := by omega
                    exact HS.out HXX.out
                have HN0 := hide hn0
                clear hn0
                have HST : Hid (ofold b (k + 1) = ostep (some (n, xs)) x) := hide (by rw [ofold, (HN1.out hkl).1, HXX.out])
                by_cases hbig : 4294967295 < n * 128 + x % 128
                · have hans : oidAns b len = none := oidAns_none (m := k + 1) (by rw [HST.out]; exact ostep_big HN0.out hbig) (by omega)
                  have hbig' : (4294967295 : Int) < ((n * 128 + x % 128 : Nat) : Int) := by omega
                  generalize n * 128 + x % 128 = N at *
                  go_wp2
                  go_ret2
                  exact ⟨_, rfl, rfl, by rw [HBB.out]; exact HW.out⟩
                · have hbig' : ¬ (4294967295 : Int) < ((n * 128 + x % 128 : Nat) : Int) := by omega
                  have hres : Hid (k + 1 ≤ en → ofold b (k + 1) = some (n * 128 + x % 128, xs) ∧ (st < k + 1 → 0 < n * 128 + x % 128)) := hide (fun h => by
                    have hxk : 128 ≤ x := by rw [← HXX.out]; exact HK.out k (by omega) (by omega)
                    refine ⟨by rw [HST.out]; exact ostep_more HN0.out hbig hxk, fun _ => ?_⟩
                    have := HN0.out
                    omega)
                  have hres2 : Hid (k + 1 = en + 1 → ofold b (k + 1) = some (0, xs ++ [n * 128 + x % 128])) := hide (fun h => by
                    obtain rfl : k = en := by omega
                    rw [HST.out]
                    exact ostep_end HN0.out hbig (by rw [← HXX.out]; exact HX.out))
                  generalize n * 128 + x % 128 = N at *
                  go_wp2
                  exact ⟨⟨k + 1, N, by omega, by omega, by simp, rfl, by omega, hres, hres2⟩, by simp [intOf]; omega⟩
              · obtain rfl : k = en + 1 := by omega
                have HE := hide (HN2.out rfl)
                have hw32 := u32_wrap n hn
                clear HN1 HN2
                go_wp2_with (at_builtin; refine wpList_append_lies _ rfl _ _ 27 rfl B 56 i0 (.int .u32 0) 1 4 Ybaf.underlying27 hi hz0 hz1 hz2 rfl (by decide) _ xs.length (u32s xs) rfl (HO.out.alloc _) ⟨wr.heap.size, 0, none⟩ 1 1 [.int .u32 (n : Int)] rfl rfl (cell_one_new _ _ _) (fun u hu => by simp at hu; subst hu; rfl) (by decide) (by unfold maxLen; omega) (by omega) (by have := HW.out.size; rw [HBB.out] at this; simp; omega) _ rfl ?_)
                intro g2 cap2 w2 hown2 hgrow2 hlies2 hlt2
                have HO2 := hide hown2
                have HW2 := hide ((HW.out.alloc (by have := HW.out.size; rw [HBB.out] at this; exact this) (.cells #[.int .u32 (n : Int)] 56)).grown hgrow2 (by have := HW.out.size; rw [HBB.out] at this; simp; omega) (fun k hk => own_lt HO.out hk))
                clear hown2 hgrow2 hlies2 hlt2
                go_wp2
                refine ⟨⟨en + 1, xs ++ [n], by omega, by simp, HE, ?_, HW2⟩, by simp [intOf]; omega⟩
                have e1 : (xs ++ [n]).length = xs.length + 1 := by simp
                have e2 : u32s (xs ++ [n]) = u32s xs ++ [.int .u32 (n : Int)] := by simp [u32s]
                rw [e1, e2]
                exact HO2
        · rw [if_neg hx] at h128
          have hen2 : en + 1 < len := by
            rcases Nat.lt_or_ge (en + 1) len with h | h
            · exact h
            · have := HL.out
              rw [show len - 1 = en by omega] at this
              omega
          have HK2 : Hid (∀ k, st ≤ k → k < en + 1 → 128 ≤ b k) := hide (fun k h h' => by
            rcases Nat.lt_or_ge k en with h2 | h2
            · exact HK.out k h h2
            · obtain rfl : k = en := by omega
              omega)
          clear hx
          go_wp2
          exact ⟨⟨en + 1, by omega, by omega, by simp, HK2⟩, by simp [intOf]; omega⟩
    · obtain rfl : st = len := by omega
      have hfit := ofold_fit HJ.out
      obtain ⟨-, hx0⟩ := hfit.2.2.2 hp HL.out
      obtain ⟨f, t, rfl⟩ : ∃ f t, xs = f :: t := by
        cases xs with
        | nil => simp at hx0
        | cons f t => exact ⟨f, t, rfl⟩
      have hfm : f ≤ 4294967295 := hfit.2.1 f (by simp)
      have htl : t.length + 1 ≤ st := by simpa using hfit.2.2.1
      clear hfit hx0 hxl
      have HJ2 := HJ
      clear HJ
      rcases HO.out.2 with ⟨_, h⟩ | ⟨gg, cap2, cur, hu4, hggB, hgg, hnc, hcm, hcs, hcur0⟩
      · simp at h
      · simp only [List.length_cons, Nat.mul_one] at hcur0 hu4 hnc hcs
        have HCUR : Hid (cur.toList.take (t.length + 1) = u32s (f :: t)) := hide hcur0
        clear hcur0 HO
        subst hu4
        have c0 : wr.cell? ⟨gg, 0, none⟩ = some (.int .u32 (f : Int)) := by rw [cell_at hgg]; exact cur_at HCUR.out (by simp) 0 (by omega)
        have hggl : gg < wr.heap.size := by
          rcases Nat.lt_or_ge gg wr.heap.size with h | h
          · exact h
          · rw [Array.getElem?_eq_none h] at hgg; cases hgg
        by_cases h128 : 127 < t.length + 1
        · have hans : oidAns b st = none := by
            unfold oidAns
            rw [if_neg (by rintro (h | h); omega; exact absurd HL.out (by omega)), HJ2.out]
            exact if_pos (by simp; omega)
          have h128' : (128 : Int) < (t.length : Int) + 1 + 1 := by omega
          go_wp2
          go_ret2
          rw [hans]
          exact ⟨_, rfl, rfl, by rw [HBB.out]; exact HW.out⟩
        · have h128' : ¬ (128 : Int) < (t.length : Int) + 1 + 1 := by omega
          by_cases hf : f < 40
          · have harcs : arcs (f :: t) = 0 :: f :: t := by rw [arcs, if_pos hf]
            have hf' : (f : Int) < 40 := by omega
            have HARCS := hide harcs
            clear harcs
            go_upto_region 30 with (at_make; refine wpList_make_own _ rfl _ _ 28 rfl B 56 i0 (.int .u32 0) 1 Ybaf.underlying28 hi hz0 hz1 _ _ _ (t.length + 2) rfl rfl (by omega) (by rw [hz2]; omega) (by unfold maxLen; omega) (by have := HW.out.size; rw [HBB.out] at this; exact this) ?_; intro w1 hown1 hgrow1)
            have HW1 := hide (HW.out.grown hgrow1 (by have := HW.out.size; rw [HBB.out] at this; exact this) (fun k hk => by cases hk))
            have HO1 := hide hown1
            have hgg1 : w1.heap[gg]? = some (.cells cur 56 (0, 0)) := by rw [hgrow1.block gg hggl (fun e => by cases e)]; exact hgg
            have HS1 := hide hgrow1.size
            clear hown1 hgrow1
            generalize hH : wr.heap.size = H at *
            have HH := hide hH
            clear hH
            go_upto_region 31 with (at_builtin; refine wpList_append_fits _ rfl _ _ 28 rfl B 56 i0 1 Ybaf.underlying28 hi hz1 H 0 (t.length + 2) [] rfl (HO1.out.alloc _) ⟨w1.heap.size, 0, none⟩ 2 2 [.int .u32 0, .int .u32 (f : Int)] rfl rfl (cells_pair _ _ _) (pair_one _ _) (by omega) ?_; intro w2 hown2 hgrow2)
            have HW2 := hide ((HW1.out.alloc (by have := HW1.out.size; rw [HBB.out] at this; exact this) (.cells #[.int .u32 0, .int .u32 (f : Int)] 56)).grown hgrow2 (by have := HW1.out.size; rw [HBB.out] at this; simp; omega) (fun k hk => by cases hk; have := HW.out.size; have := HBB.out; have := HH.out; omega))
            have hgg2 : w2.heap[gg]? = some (.cells cur 56 (0, 0)) := by rw [hgrow2.block gg (by have := HS1.out; simp; omega) (fun e => by cases e; omega), Below.heap_alloc _ _ _ (by have := HS1.out; omega)]; exact hgg1
            have HO2 := hide hown2
            clear hown2 hgrow2
            by_cases hc1 : cap2 = 1
            · obtain rfl : t = [] := List.eq_nil_of_length_eq_zero (by omega)
              have hans : oidAns b st = some (arcs [f]) := by
                unfold oidAns
                rw [if_neg (by rintro (h | h); omega; exact absurd HL.out (by omega)), HJ2.out]
                exact if_neg (by simp)
              go_wp2
              go_ret2
              refine ⟨_, rfl, ?_, by rw [HBB.out]; exact HW2.out⟩
              rw [HARCS.out]
              exact row_of_own (l := [0, f]) rfl (by simp) HO2.out (by simp [u32s]; try omega)
            · go_wp2_with (at_builtin; refine wpList_append_mixed _ rfl _ _ rfl B i0 hi hz1 H 2 (t.length + 2) _ rfl HO2.out ⟨gg, 1, none⟩ (t.length) _ (u32s t) rfl (by simp [u32s]) (tail_cells hgg2 HCUR.out) (u32s_one _) (by omega) ?_)
              intro w3 hown3 hgrow3
              have HW3 := hide (HW2.out.grown hgrow3 (by have := HW2.out.size; rw [HBB.out] at this; exact this) (fun k hk => by cases hk; have := HW.out.size; have := HBB.out; have := HH.out; omega))
              have HO3 := hide hown3
              clear hown3 hgrow3
              have hans : oidAns b st = some (arcs (f :: t)) := by
                unfold oidAns
                rw [if_neg (by rintro (h | h); omega; exact absurd HL.out (by omega)), HJ2.out]
                exact if_neg (by simp; omega)
              go_wp2
              go_ret2
              try rw [hans]
              refine ⟨_, rfl, ?_, by rw [HBB.out]; exact HW3.out⟩
              rw [HARCS.out]
              exact row_of_own (l := 0 :: f :: t) (by simp; omega) (by simp; omega) HO3.out (by simp [u32s]; try omega)
          · by_cases hf2 : f < 80
            · have harcs : arcs (f :: t) = 1 :: (f - 40) :: t := by rw [arcs, if_neg hf, if_pos hf2]
              have hf' : ¬ (f : Int) < 40 := by omega
              have hf2' : (f : Int) < 80 := by omega
              have HARCS := hide harcs
              clear harcs
              go_upto_region 30 with (at_make; refine wpList_make_own _ rfl _ _ 28 rfl B 56 i0 (.int .u32 0) 1 Ybaf.underlying28 hi hz0 hz1 _ _ _ (t.length + 2) rfl rfl (by omega) (by rw [hz2]; omega) (by unfold maxLen; omega) (by have := HW.out.size; rw [HBB.out] at this; exact this) ?_; intro w1 hown1 hgrow1)
              have HW1 := hide (HW.out.grown hgrow1 (by have := HW.out.size; rw [HBB.out] at this; exact this) (fun k hk => by cases hk))
              have HO1 := hide hown1
              have hgg1 : w1.heap[gg]? = some (.cells cur 56 (0, 0)) := by rw [hgrow1.block gg hggl (fun e => by cases e)]; exact hgg
              have HS1 := hide hgrow1.size
              clear hown1 hgrow1
              generalize hH : wr.heap.size = H at *
              have HH := hide hH
              clear hH
              go_upto_region 31 with (at_builtin; refine wpList_append_fits _ rfl _ _ 28 rfl B 56 i0 1 Ybaf.underlying28 hi hz1 H 0 (t.length + 2) [] rfl (HO1.out.alloc _) ⟨w1.heap.size, 0, none⟩ 2 2 [.int .u32 1, .int .u32 ((f : Int) - 40)] rfl rfl (cells_pair _ _ _) (pair_one _ _) (by omega) ?_; intro w2 hown2 hgrow2)
              have HW2 := hide ((HW1.out.alloc (by have := HW1.out.size; rw [HBB.out] at this; exact this) (.cells #[.int .u32 1, .int .u32 ((f : Int) - 40)] 56)).grown hgrow2 (by have := HW1.out.size; rw [HBB.out] at this; simp; omega) (fun k hk => by cases hk; have := HW.out.size; have := HBB.out; have := HH.out; omega))
              have hgg2 : w2.heap[gg]? = some (.cells cur 56 (0, 0)) := by rw [hgrow2.block gg (by have := HS1.out; simp; omega) (fun e => by cases e; omega), Below.heap_alloc _ _ _ (by have := HS1.out; omega)]; exact hgg1
              have HO2 := hide hown2
              clear hown2 hgrow2
              by_cases hc1 : cap2 = 1
              · obtain rfl : t = [] := List.eq_nil_of_length_eq_zero (by omega)
                have hans : oidAns b st = some (arcs [f]) := by
                  unfold oidAns
                  rw [if_neg (by rintro (h | h); omega; exact absurd HL.out (by omega)), HJ2.out]
                  exact if_neg (by simp)
                go_wp2
                go_ret2
                refine ⟨_, rfl, ?_, by rw [HBB.out]; exact HW2.out⟩
                rw [HARCS.out]
                exact row_of_own (l := [1, (f - 40)]) rfl (by simp) HO2.out (by simp [u32s]; try omega)
              · go_wp2_with (at_builtin; refine wpList_append_mixed _ rfl _ _ rfl B i0 hi hz1 H 2 (t.length + 2) _ rfl HO2.out ⟨gg, 1, none⟩ (t.length) _ (u32s t) rfl (by simp [u32s]) (tail_cells hgg2 HCUR.out) (u32s_one _) (by omega) ?_)
                intro w3 hown3 hgrow3
                have HW3 := hide (HW2.out.grown hgrow3 (by have := HW2.out.size; rw [HBB.out] at this; exact this) (fun k hk => by cases hk; have := HW.out.size; have := HBB.out; have := HH.out; omega))
                have HO3 := hide hown3
                clear hown3 hgrow3
                have hans : oidAns b st = some (arcs (f :: t)) := by
                  unfold oidAns
                  rw [if_neg (by rintro (h | h); omega; exact absurd HL.out (by omega)), HJ2.out]
                  exact if_neg (by simp; omega)
                go_wp2
                go_ret2
                try rw [hans]
                refine ⟨_, rfl, ?_, by rw [HBB.out]; exact HW3.out⟩
                rw [HARCS.out]
                exact row_of_own (l := 1 :: (f - 40) :: t) (by simp; omega) (by simp; omega) HO3.out (by simp [u32s]; try omega)
            · have harcs : arcs (f :: t) = 2 :: (f - 80) :: t := by rw [arcs, if_neg hf, if_neg hf2]
              have hf' : ¬ (f : Int) < 40 := by omega
              have hf2' : ¬ (f : Int) < 80 := by omega
              have HARCS := hide harcs
              clear harcs
              go_upto_region 30 with (at_make; refine wpList_make_own _ rfl _ _ 28 rfl B 56 i0 (.int .u32 0) 1 Ybaf.underlying28 hi hz0 hz1 _ _ _ (t.length + 2) rfl rfl (by omega) (by rw [hz2]; omega) (by unfold maxLen; omega) (by have := HW.out.size; rw [HBB.out] at this; exact this) ?_; intro w1 hown1 hgrow1)
              have HW1 := hide (HW.out.grown hgrow1 (by have := HW.out.size; rw [HBB.out] at this; exact this) (fun k hk => by cases hk))
              have HO1 := hide hown1
              have hgg1 : w1.heap[gg]? = some (.cells cur 56 (0, 0)) := by rw [hgrow1.block gg hggl (fun e => by cases e)]; exact hgg
              have HS1 := hide hgrow1.size
              clear hown1 hgrow1
              generalize hH : wr.heap.size = H at *
              have HH := hide hH
              clear hH
              go_upto_region 31 with (at_builtin; refine wpList_append_fits _ rfl _ _ 28 rfl B 56 i0 1 Ybaf.underlying28 hi hz1 H 0 (t.length + 2) [] rfl (HO1.out.alloc _) ⟨w1.heap.size, 0, none⟩ 2 2 [.int .u32 2, .int .u32 ((f : Int) - 80)] rfl rfl (cells_pair _ _ _) (pair_one _ _) (by omega) ?_; intro w2 hown2 hgrow2)
              have HW2 := hide ((HW1.out.alloc (by have := HW1.out.size; rw [HBB.out] at this; exact this) (.cells #[.int .u32 2, .int .u32 ((f : Int) - 80)] 56)).grown hgrow2 (by have := HW1.out.size; rw [HBB.out] at this; simp; omega) (fun k hk => by cases hk; have := HW.out.size; have := HBB.out; have := HH.out; omega))
              have hgg2 : w2.heap[gg]? = some (.cells cur 56 (0, 0)) := by rw [hgrow2.block gg (by have := HS1.out; simp; omega) (fun e => by cases e; omega), Below.heap_alloc _ _ _ (by have := HS1.out; omega)]; exact hgg1
              have HO2 := hide hown2
              clear hown2 hgrow2
              by_cases hc1 : cap2 = 1
              · obtain rfl : t = [] := List.eq_nil_of_length_eq_zero (by omega)
                have hans : oidAns b st = some (arcs [f]) := by
                  unfold oidAns
                  rw [if_neg (by rintro (h | h); omega; exact absurd HL.out (by omega)), HJ2.out]
                  exact if_neg (by simp)
                go_wp2
                go_ret2
                refine ⟨_, rfl, ?_, by rw [HBB.out]; exact HW2.out⟩
                rw [HARCS.out]
                exact row_of_own (l := [2, (f - 80)]) rfl (by simp) HO2.out (by simp [u32s]; try omega)
              · go_wp2_with (at_builtin; refine wpList_append_mixed _ rfl _ _ rfl B i0 hi hz1 H 2 (t.length + 2) _ rfl HO2.out ⟨gg, 1, none⟩ (t.length) _ (u32s t) rfl (by simp [u32s]) (tail_cells hgg2 HCUR.out) (u32s_one _) (by omega) ?_)
                intro w3 hown3 hgrow3
                have HW3 := hide (HW2.out.grown hgrow3 (by have := HW2.out.size; rw [HBB.out] at this; exact this) (fun k hk => by cases hk; have := HW.out.size; have := HBB.out; have := HH.out; omega))
                have HO3 := hide hown3
                clear hown3 hgrow3
                have hans : oidAns b st = some (arcs (f :: t)) := by
                  unfold oidAns
                  rw [if_neg (by rintro (h | h); omega; exact absurd HL.out (by omega)), HJ2.out]
                  exact if_neg (by simp; omega)
                go_wp2
                go_ret2
                try rw [hans]
                refine ⟨_, rfl, ?_, by rw [HBB.out]; exact HW3.out⟩
                rw [HARCS.out]
                exact row_of_own (l := 2 :: (f - 80) :: t) (by simp; omega) (by simp; omega) HO3.out (by simp [u32s]; try omega)

/-- zzs5991boid. -/
theorem boid_any (a : Option Addr) (len cap : Nat) (b : Nat → Nat) (w : World) (h : IsBytes w a len cap b) (hlen : len ≤ 1048576) :
    Calls Ybaf.prog 10 #[.slice a len cap] w fun e w' => ∃ v, e = .returned (.tuple #[v, .bool (oidAns b len).isSome]) ∧ OidRow w' v (oidAns b len) ∧ Below w.heap.size w w' := by
  by_cases hbad : len = 0 ∨ 128 ≤ b (len - 1)
  · have hans : oidAns b len = none := by unfold oidAns; rw [if_pos hbad]
    rw [hans]
    refine (boid_bad a len cap b w h hbad).mono ?_
    rintro e w' ⟨rfl, rfl⟩
    exact ⟨_, rfl, rfl, Below.refl _ _⟩
  · obtain ⟨hlc, hcm, hb, hc⟩ := h
    obtain ⟨g, off, rfl, hcell⟩ := hc (by omega)
    exact boid_ok g off len cap b w hb (by omega) hlen (cell_lt (hcell 0 (by omega))) hcell (by omega)
end Go.Proofs.YbulkdtayFmt
