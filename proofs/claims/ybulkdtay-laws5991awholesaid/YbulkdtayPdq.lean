import Derived.Test.YbulkdtayIns
import Derived.Test.YbulkdtayHeap
import Derived.Test.YbulkdtayPart
import Derived.Test.YbulkdtayPIns
import Derived.Test.YbulkdtayBreak
namespace Go.Proofs.Ybulkdtay
open Go.RowKit

theorem swo : Sort.SWO Sort.ltInt := by
  refine ⟨fun x => by simp [Sort.ltInt], fun x y z h1 h2 => ?_, fun x y z h1 h2 => ?_⟩
  · simp [Sort.ltInt] at *; omega
  · simp [Sort.ltInt] at *; omega

/-- What is left to do, from (a', b') in dk, for (a, b) in d. -/
structure Good (a b : Nat) (d : Array Int) (x y : Nat) (dk : Array Int) : Prop where
  bel : Sort.Below Sort.ltInt x y dk
  goal : ∀ R, Sort.PermIn x y dk R → Sort.SortedIn Sort.ltInt x y R → Sort.PermIn a b d R ∧ Sort.SortedIn Sort.ltInt a b R
theorem Good.perm {a b x y : Nat} {d dk d1 : Array Int} (h : Good a b d x y dk) (hp : Sort.PermIn x y dk d1) (hb : y ≤ dk.size) : Good a b d x y d1 :=
  ⟨h.bel.perm hb hp, fun R hR hs => h.goal R (Sort.permIn_trans _ _ _ x y hp hR) hs⟩

set_option maxHeartbeats 8000000 in
set_option maxRecDepth 100000 in
/-- pdqsortOrdered: a sorted permutation. -/
theorem pdq_any : ∀ (s : Nat) (base g a b L n cap : Nat) (d : Array Int) (w0 w : World), b - a ≤ s → Srt base g w0 w n cap d → a ≤ b → b ≤ n → L ≤ 64 → Sort.Below Sort.ltInt a b d →
    Calls Yba.prog 16 #[.slice (some ⟨g, 0, none⟩) n cap, .int .i64 a, .int .i64 b, .int .i64 L] w fun e w' => e = .returned (.tuple #[]) ∧ ∃ d', Srt base g w0 w' n cap d' ∧ Sort.PermIn a b d d' ∧ Sort.SortedIn Sort.ltInt a b d' := by
  intro s
  induction s with
  | zero =>
    intro base g a b L n cap d w0 w hs h hab hb hL hB
    have hsm := h.small
    have hI := Sort.insertionSort_holds swo d a b hab (by rw [h.sz]; exact hb)
    have HI := hide hI
    clear hI
    have HC := hide (ins_any base g a b n cap d w0 w h hab hb)
    clear hB h
    have hd : decide ((b : Int) - (a : Int) ≤ 12) = true := by simp; omega
    go_enter Yba.func16, Yba.ntmps16
    go_wp2_with fail
    refine wp_loop_rounds 1 ?_
    rw [rounds_succ]
    go_wp2_with (go_at_call 18; refine HC.out.mono ?_; rintro e w1 ⟨rfl, h1⟩)
    exact bodyPost_ret (results_none rfl _ _ _) rfl ⟨rfl, _, h1, HI.out.1, HI.out.2⟩
  | succ s ih =>
    intro base g a b L n cap d w0 w hs h hab hb hL hB
    have hsm := h.small
    have HIH := hide ih
    have HG0 : Hid (Good a b d a b d) := hide ⟨hB, fun R h1 h2 => ⟨h1, h2⟩⟩
    have HS := hide h
    clear ih h hB
    go_enter Yba.func16, Yba.ntmps16
    go_wp2_with fail
    go_loopw [1, 2, 3, 8, 9] (fun v1 v2 v3 v8 v9 wr => ∃ (x y k : Nat) (wb wp : Bool) (dk : Array Int), v1 = .int .i64 x ∧ v2 = .int .i64 y ∧ v3 = .int .i64 k ∧ v8 = .bool wb ∧ v9 = .bool wp ∧ a ≤ x ∧ x ≤ y ∧ y ≤ b ∧ k ≤ 64 ∧ Hid (Srt base g w0 wr n cap dk) ∧ Hid (Good a b d x y dk)) (fun v1 v2 _ _ _ _ => (intOf v2 - intOf v1).toNat)
    case atStart => exact ⟨a, b, L, true, true, d, rfl, rfl, rfl, rfl, rfl, by omega, hab, by omega, hL, HS, HG0⟩
    case round =>
      clear HS HG0
      obtain ⟨x, y, k, wb, wp, dk, rfl, rfl, rfl, rfl, rfl, hax, hxy, hyb, hk, HS, HG⟩ := hrel
      by_cases h12 : y - x ≤ 12
      · have hd : decide ((y : Int) - (x : Int) ≤ 12) = true := by simp; omega
        have HI := hide (Sort.insertionSort_holds swo dk x y hxy (by rw [HS.out.sz]; omega))
        go_wp2_with fail
        refine (ins_any base g x y n cap dk w0 wr HS.out hxy (by omega)).mono ?_
        rintro e w1 ⟨rfl, h1⟩
        go_wp2
        have hR := HG.out.goal _ HI.out.1 HI.out.2
        exact bodyPost_ret (results_none rfl _ _ _) rfl ⟨rfl, _, h1, hR.1, hR.2⟩
      have hd : decide ((y : Int) - (x : Int) ≤ 12) = false := by simp; omega
      by_cases hk0 : k = 0
      · have hkd : ((k : Int) == 0) = true := by simp; omega
        have HI := hide (Sort.heapSort_holds swo dk x y hxy (by rw [HS.out.sz]; omega))
        clear hk0
        go_wp2_with fail
        refine (heap_any base g x y n cap dk w0 wr HS.out (by omega) (by omega)).mono ?_
        rintro e w1 ⟨rfl, h1⟩
        go_wp2
        have hR := HG.out.goal _ HI.out.1 HI.out.2
        exact bodyPost_ret (results_none rfl _ _ _) rfl ⟨rfl, _, h1, hR.1, hR.2⟩
      have hkd : ((k : Int) == 0) = false := by simp; omega
      have HW0 := hide HS.out.gr.size
      have hxy12 : x + 12 < y := by omega
      go_upto_if 35 with fail
      go_cut [3] from 19 to 133 (fun v wc => ∃ (k2 : Nat) (d1 : Array Int), v = .int .i64 k2 ∧ k2 ≤ 64 ∧ Hid (Srt base g w0 wc n cap d1) ∧ Hid (Good a b d x y d1))
      case first =>
        cases wb
        · go_wp2_with fail
          refine (break_any base g x y n cap dk w0 wr HS.out (by omega) (by omega) HW0.out).mono ?_
          rintro e w1 ⟨rfl, d1, h1, hp1⟩
          have HS1 := hide h1
          have HP1 := hide hp1
          clear h1 hp1
          go_wp2
          go_meet
          case rel => exact ⟨k - 1, d1, by congr 1; omega, by omega, HS1, hide (HG.out.perm HP1.out (by rw [HS.out.sz]; omega))⟩
        · go_wp2
          go_meet
          case rel => exact ⟨k, dk, rfl, hk, HS, HG⟩
      case rest =>
        clear HS HG HW0 hk hk0 hkd
        obtain ⟨k2, d1, rfl, hk2, HS, HG⟩ := hcut
        have HW0 := hide HS.out.gr.size
        go_wp2_with fail
        refine (choose_any base g x y n cap d1 w0 wc HS.out (by omega) (by omega) HW0.out).mono ?_
        rintro e w1 ⟨⟨p, t, rfl, hp1, hp2, ht⟩, h1⟩
        have HS1 := hide h1
        clear h1 HS HW0
        go_upto_if 50 with fail
        go_cut [11, 12] from 19 to 133 (fun vp vt wc => ∃ (p t : Nat) (d2 : Array Int), vp = .int .i64 p ∧ vt = .int .i64 t ∧ x ≤ p ∧ p < y ∧ Hid (Srt base g w0 wc n cap d2) ∧ Hid (Good a b d x y d2))
        case first =>
          by_cases ht2 : t = 2
          · have htd : ((t : Int) == 2) = true := by simp; omega
            clear ht2
            go_wp2_with fail
            refine (rev_any base g x y n cap d1 w0 w1 HS1.out (by omega) (by omega)).mono ?_
            rintro e w2 ⟨rfl, h2⟩
            have HS2 := hide h2
            clear h2
            go_wp2
            go_meet
            case rel => exact ⟨(y - 1) - (p - x), 1, _, by congr 1; omega, rfl, by omega, by omega, HS2, hide (HG.out.perm (Sort.reverseRange_holds d1 x y hxy (by rw [HS1.out.sz]; omega)) (by rw [HS1.out.sz]; omega))⟩
          · have htd : ((t : Int) == 2) = false := by simp; omega
            clear ht2
            go_wp2
            go_meet
            case rel => exact ⟨p, t, d1, rfl, rfl, hp1, hp2, HS1, HG⟩
        case rest =>
          clear HS1 HG hp1 hp2 ht
          obtain ⟨p, t, d2, rfl, rfl, hp1, hp2, HS, HG⟩ := hcut
          go_upto_region 15 with fail
          go_cut [68] from 19 to 133 (fun v wd => ∃ c : Bool, v = .bool c ∧ wc = wd)
          case first =>
            cases wb
            · go_wp2
              all_goals go_meet
              case rel => exact ⟨_, rfl, rfl⟩
            · cases wp
              · go_wp2
                all_goals go_meet
                case rel => exact ⟨_, rfl, rfl⟩
              · go_wp2
                all_goals go_meet
                case rel => exact ⟨_, rfl, rfl⟩
          case rest =>
            obtain ⟨c, rfl, rfl⟩ := hcut
            go_upto_if 68 with fail
            go_cut [] from 19 to 133 (fun wd => ∃ (d3 : Array Int), Hid (Srt base g w0 wd n cap d3) ∧ Hid (Good a b d x y d3))
            case first =>
              cases c
              · go_wp2
                go_meet
                case rel => exact ⟨d2, HS, HG⟩
              · have HPI := hide (Sort.partialInsertionSort_holds swo d2 x y (by omega) (by rw [HS.out.sz]; omega) HG.out.bel)
                go_wp2_with fail
                refine (pins_any base g x y n cap d2 w0 _ HS.out (by omega) (by omega)).mono ?_
                rintro e w1 ⟨rfl, h1⟩
                have HS1 := hide h1
                clear h1
                generalize Sort.partialInsertionSort Sort.ltInt d2 x y = PI at HPI HS1 ⊢
                obtain ⟨d3, ok⟩ := PI
                cases ok
                · go_wp2
                  go_meet
                  case rel => exact ⟨d3, HS1, hide (HG.out.perm HPI.out.1 (by rw [HS.out.sz]; omega))⟩
                · go_wp2
                  have hR := HG.out.goal _ HPI.out.1 (HPI.out.2 trivial)
                  exact bodyPost_ret (results_none rfl _ _ _) rfl ⟨rfl, _, HS1.out, hR.1, hR.2⟩
            case rest =>
              clear HS HG
              obtain ⟨d3, HS, HGo⟩ := hcut
              go_upto_region 17 with fail
              go_cut [87] from 19 to 133 (fun v wd => ∃ c : Bool, v = .bool c ∧ Hid (c = true → 0 < x ∧ Sort.ltInt d3[x - 1]! d3[p]! = false) ∧ Hid (Srt base g w0 wd n cap d3))
              case first =>
                by_cases hx0 : 0 < x
                · have hx0d : decide ((0 : Int) < (x : Int)) = true := by simp; omega
                  obtain ⟨G, hG⟩ : ∃ G : Nat → Int, ∀ t, G t = d3[t]! := ⟨fun t => d3[t]!, fun _ => rfl⟩
                  have hcw : ∀ t, t < n → wc.cell? ⟨g, t, none⟩ = some (.int .i32 (G t)) := fun t ht => by rw [hG]; exact HS.out.cell t ht
                  have hfw : ∀ t, t < n → wc.frozen? ⟨g, t, none⟩ = false := fun t _ => HS.out.froz t
                  have HG := hide hG
                  clear hG
                  have c0 := hcw (x - 1) (by omega)
                  have f0 := hfw (x - 1) (by omega)
                  have n0 : x - 1 < n := by omega
                  have c1 := hcw (p) (by omega)
                  have f1 := hfw (p) (by omega)
                  have n1 : p < n := by omega
                  go_quiet (first | (go_at_call 24; refine Calls.quiet_of_same (less_any _ _ _)))
                  go_wp2
                  all_goals go_meet
                  case rel => exact ⟨_, rfl, hide (fun h => ⟨hx0, by rw [HG.out, HG.out] at h; simpa using h⟩), hide (HS.out.drewN _)⟩
                · have hx0d : decide ((0 : Int) < (x : Int)) = false := by simp; omega
                  go_quiet (first | (go_at_call 24; refine Calls.quiet_of_same (less_any _ _ _)))
                  go_wp2
                  all_goals go_meet
                  case rel => exact ⟨false, rfl, hide (fun h => by cases h), hide (HS.out.drewN _)⟩
              case rest =>
                clear HS
                obtain ⟨c, rfl, HCD, HS⟩ := hcut
                cases c
                · have HRP := hide (fun mid ap d4 => Sort.round_part swo (Sort.partition_holds Sort.ltInt) (d3 := d3) (d4 := d4) (a := x) (b := y) (pivot := p) (mid := mid) (ap := ap) hp1 hp2 (by rw [HS.out.sz]; omega) HGo.out.bel)
                  clear HCD
                  go_wp2_with fail
                  refine (part_any base g x y p n cap d3 w0 _ HS.out hp1 hp2 (by omega)).mono ?_
                  rintro e w1 ⟨rfl, h1⟩
                  have HS1 := hide h1
                  clear h1
                  generalize hPE : Sort.partition Sort.ltInt d3 x y p = PE at HS1 ⊢
                  obtain ⟨mid, ap, d4⟩ := PE
                  obtain ⟨r1, r2, r3, r4, r5, r6, r7⟩ := HRP.out mid ap d4 hPE
                  have R4 := hide r4
                  have R5 := hide r5
                  have R6 := hide r6
                  have R7 := hide r7
                  clear HRP hPE r3 r4 r5 r6 r7
                  by_cases hlr : mid - x < y - mid
                  · have hlrd : decide ((mid : Int) - (x : Int) < (y : Int) - (mid : Int)) = true := by simp; omega
                    go_wp2_with fail
                    refine (HIH.out base g x mid k2 n cap d4 w0 w1 (by omega) HS1.out r1 (by omega) hk2 R4.out).mono ?_
                    rintro e w2 ⟨rfl, d5, h5, hp5, hs5⟩
                    have h6 := R6.out d5 hp5 hs5
                    have HN : Hid (Good a b d (mid + 1) y d5) := hide ⟨h6.1, fun R g1 g2 => HGo.out.goal R (h6.2 R g1 g2).1 (h6.2 R g1 g2).2⟩
                    have HS5 := hide h5
                    clear h5 hp5 hs5 h6
                    go_wp2
                    exact ⟨⟨mid + 1, y, k2, _, _, d5, by simp, rfl, rfl, rfl, rfl, by omega, by omega, by omega, hk2, HS5, HN⟩, by simp [intOf]; omega⟩
                  · have hlrd : decide ((mid : Int) - (x : Int) < (y : Int) - (mid : Int)) = false := by simp; omega
                    have HI := hide (HIH.out base g (mid + 1) y k2 n cap d4 w0 w1 (by omega) HS1.out (by omega) (by omega) hk2 R5.out)
                    have em : ((mid + 1 : Nat) : Int) = (mid : Int) + 1 := by omega
                    rw [em] at HI
                    clear em
                    go_wp2_with fail
                    refine HI.out.mono ?_
                    rintro e w2 ⟨rfl, d5, h5, hp5, hs5⟩
                    have h6 := R7.out d5 hp5 hs5
                    have HN : Hid (Good a b d x mid d5) := hide ⟨h6.1, fun R g1 g2 => HGo.out.goal R (h6.2 R g1 g2).1 (h6.2 R g1 g2).2⟩
                    have HS5 := hide h5
                    clear h5 hp5 hs5 h6
                    go_wp2
                    exact ⟨⟨x, mid, k2, _, _, d5, rfl, rfl, rfl, rfl, rfl, by omega, by omega, by omega, hk2, HS5, HN⟩, by simp [intOf]; omega⟩
                · obtain ⟨hx0, hnl⟩ := HCD.out rfl
                  have HRE := hide (fun mid d4 => Sort.round_eq swo (Sort.partitionEqual_holds Sort.ltInt) (d3 := d3) (d4 := d4) (a := x) (b := y) (pivot := p) (mid := mid) hx0 hp1 hp2 (by rw [HS.out.sz]; omega) HGo.out.bel hnl)
                  go_wp2_with fail
                  refine (partEq_any base g x y p n cap d3 w0 _ HS.out hp1 hp2 (by omega)).mono ?_
                  rintro e w1 ⟨rfl, h1⟩
                  have HS1 := hide h1
                  clear h1
                  generalize hPE : Sort.partitionEqual Sort.ltInt d3 x y p = PE at HS1 ⊢
                  obtain ⟨mid, d4⟩ := PE
                  obtain ⟨e1, e2, e3, e4, e5⟩ := HRE.out mid d4 hPE
                  have HN : Hid (Good a b d mid y d4) := hide ⟨e4, fun R h1 h2 => HGo.out.goal R (e5 R h1 h2).1 (e5 R h1 h2).2⟩
                  clear HRE hPE e3 e4 e5 hnl HCD
                  go_wp2
                  exact ⟨⟨mid, y, k2, wb, wp, d4, rfl, rfl, rfl, rfl, rfl, by omega, by omega, by omega, hk2, HS1, HN⟩, by simp [intOf]; omega⟩
end Go.Proofs.Ybulkdtay
