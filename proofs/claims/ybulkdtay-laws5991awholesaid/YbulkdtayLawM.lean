import Derived.Test.YbulkdtayLawA
namespace Go.Proofs.Ybulkdtay
open Go.RowKit

theorem neq_nil (T E : TypeId) (hT : Yba.prog.underlying T = some (.slice E)) (a : Option Addr) (l c : Nat) (w : World) : (binOp .neq T (.slice a l c) (.slice none 0 0)).run Yba.prog w = .ok (.bool (!a.isNone)) w := by
  simp only [binOp]
  simp [run_equal_slice_nil w T E a l c hT]

theorem froz_new (w : World) (cs : Array Value) (t : TypeId) (j : Nat) : (w.alloc (.cells cs t)).frozen? ⟨w.heap.size, j, none⟩ = false := by simp
theorem size_new (w : World) (o : Obj) : w.heap.size < (w.alloc o).heap.size := by simp
theorem grow_new (w : World) (cs : Array Value) : Below w.heap.size w (w.alloc (.cells cs 31)) := (Below.refl _ w).alloc (Nat.le_refl _) _
theorem Rd.drewN {k : IntKind} {n₀ : Nat} {A : World} {a : Option Addr} {len cap : Nat} {zs : List Int} (r : Rd k n₀ A a len cap zs) (m : Nat) : Rd k n₀ (A.drewN m) a len cap zs := ⟨r.sz, r.le, r.nil, r.at'⟩
/-- What lies in field 19. -/
def Also (B : Nat) (w : World) (len : Nat) (zs : List Int) : Prop :=
  (len ≤ 1 ∧ w.cell? ⟨B, 19, none⟩ = some (.slice none 0 0)) ∨ (2 ≤ len ∧ ∃ g cap, w.cell? ⟨B, 19, none⟩ = some (.slice (some ⟨g, 1, none⟩) (len - 1) cap) ∧ len - 1 ≤ cap ∧ B < g ∧ (∀ j, j < len → w.cell? ⟨g, j, none⟩ = some (.int .i32 ((srt zs)[j]?.getD 0))) ∧ ∀ j, w.frozen? ⟨g, j, none⟩ = false)
theorem Also.of {B : Nat} {w w' : World} {zs : List Int} (h : After B w w' zs) (hB : B < w.heap.size) : Also B w' zs.length zs := by
  rcases h.c19 with c | ⟨h2, g, cap, c, hc, hg, _, hcs, hfs⟩
  · exact .inl c
  · exact .inr ⟨h2, g, cap, c, hc, by omega, hcs, hfs⟩

/-- Between two rounds of the last loop. -/
structure Lp (B q cq len : Nat) (wm wr : World) : Prop where
  bel : Below B wm wr
  c19 : wr.cell? ⟨B, 19, none⟩ = some (.slice (some ⟨q, 1, none⟩) (len - 1) cq)
  cs : ∀ j, j < len → ∃ z, wr.cell? ⟨q, j, none⟩ = some (.int .i32 z)
  fs : ∀ j, wr.frozen? ⟨q, j, none⟩ = false
theorem Lp.set {B q cq len : Nat} {wm wr : World} (h : Lp B q cq len wm wr) (hB : B < q) (i : Nat) (v : Int) : Lp B q cq len wm (wr.setCell ⟨q, i, none⟩ (.int .i32 v)) := by
  refine ⟨h.bel.setCell (p := ⟨q, i, none⟩) (Nat.le_of_lt hB) _, (set_ne _ _ _ _ (by intro e; cases e; omega)).trans h.c19, fun j hj => ?_, fun j => (set_fz _ _ _ _).trans (h.fs j)⟩
  obtain ⟨z, hz⟩ := h.cs j hj
  by_cases e : i = j
  · subst e; exact ⟨v, World.cell?_setCell_same' _ _ _ (by rw [hz]; rfl)⟩
  · exact ⟨z, (set_ne _ _ _ _ (by intro e'; cases e'; exact e rfl)).trans hz⟩
theorem Lp.drew {B q cq len : Nat} {wm wr : World} (h : Lp B q cq len wm wr) : Lp B q cq len wm wr.drew := ⟨h.bel.drew, h.c19, h.cs, h.fs⟩
theorem Below.drewN' {B : Nat} {a w : World} (h : Below B a w) (m : Nat) : Below B a (w.drewN m) := ⟨h.os, h.tape, h.output, h.size, h.block⟩

set_option maxRecDepth 100000 in
set_option maxHeartbeats 8000000 in
theorem law_main (a0 : Int) (a1 : ByteArray) (a2 : Option Addr) (len2 cap2 : Nat) (a3 a4 a5 : Int) (a6 : ByteArray) (a7 : Option Addr) (len7 cap7 : Nat) (a8 : Bool) (a9 : Option Addr) (len9 cap9 : Nat) (z2 z7 z9 : List Int) (w : World)
    (h9 : len9 ≤ 4096) (h7 : len7 ≤ 1048576) (h2 : len2 ≤ 1048576) (r2 : Rd .u32 w.heap.size w a2 len2 cap2 z2) (r7 : Rd .i32 w.heap.size w a7 len7 cap7 z7) (r9 : Rd .i32 w.heap.size w a9 len9 cap9 z9) :
    Calls Yba.prog 3 #[.int .i32 a0, .string a1, .slice a2 len2 cap2, .int .i32 a3, .int .i32 a4, .int .i32 a5, .string a6, .slice a7 len7 cap7, .bool a8, .slice a9 len9 cap9] w fun e w' => e = .returned (.bool true) ∧ Below w.heap.size w w' := by
  have R2 := hide r2
  have R7 := hide r7
  have R9 := hide r9
  have hd9 : decide ((4096 : Int) < (len9 : Int)) = false := by simp; omega
  have hd7 : decide ((1048576 : Int) < (len7 : Int)) = false := by simp; omega
  have hd2 : decide ((1048576 : Int) < (len2 : Int)) = false := by simp; omega
  clear r2 r7 r9
  go_enter Yba.func3, Yba.ntmps3
  go_wp2_with fail
  refine (clone4_any a2 len2 cap2 _ z2 w R2.out h2).mono ?_
  rintro e w1 ⟨b2, k2, rfl, hn2, s2, e1⟩
  have HN2 := hide hn2
  have S2 := hide s2
  have E1 := hide e1
  clear hn2 s2 e1
  go_wp2_with fail
  refine (clone5_any a7 len7 cap7 _ z7 w1 (R7.out.below E1.out) h7).mono ?_
  rintro e w2 ⟨b7, k7, rfl, hn7, s7, e2⟩
  have S7 := hide s7
  have E2 := hide e2
  clear hn7 s7 e2
  go_wp2_with fail
  refine (clone5_any a9 len9 cap9 _ z9 w2 ((R9.out.below E1.out).below (E2.out.mono E1.out.size)) (by omega)).mono ?_
  rintro e w3 ⟨b9, k9, rfl, hn9, s9, e3⟩
  have S9 := hide s9
  have E3 := hide e3
  clear hn9 s9 e3
  have E13 : Hid (Below w.heap.size w w3) := hide ((E1.out.trans (E2.out.mono E1.out.size)).trans (E3.out.mono (Nat.le_trans E1.out.size E2.out.size)))
  go_wp2_with fail
  refine (zz_any a9 len9 cap9 z9 w3 h9 ((R9.out.below E13.out).mono E13.out.size)).mono ?_
  rintro e w4 ⟨g, rfl, e4, s4⟩
  have S4 := hide s4
  have E4 := hide e4
  clear s4 e4
  have E14 : Hid (Below w.heap.size w w4) := hide (E13.out.trans (E4.out.mono E13.out.size))
  go_wp2_with fail
  have R9' := hide ((R9.out.below E14.out).mono E14.out.size)
  refine (setc_any w4.heap.size a9 len9 cap9 z9 h9 _ (size_new _ _) _ _ (World.cell?_alloc_mark w4 _ 31 _ 3) (World.cell?_alloc_mark w4 _ 31 _ 19) (froz_new w4 _ 31) ((R9'.out.below (grow_new w4 _)).mono (Nat.le_of_lt (size_new _ _)))).mono ?_
  rintro e w6 ⟨rfl, ha⟩
  have HA := hide ha
  clear ha
  have q0 : w6.cell? ⟨w4.heap.size, 0, none⟩ = some (.int .i32 a0) := (HA.out.oth 0 (by decide) (by decide)).trans (World.cell?_alloc_mark w4 _ 31 _ 0)
  have q1 : w6.cell? ⟨w4.heap.size, 1, none⟩ = some (.string a1) := (HA.out.oth 1 (by decide) (by decide)).trans (World.cell?_alloc_mark w4 _ 31 _ 1)
  have q2 : w6.cell? ⟨w4.heap.size, 2, none⟩ = some (.slice b2 len2 k2) := (HA.out.oth 2 (by decide) (by decide)).trans (World.cell?_alloc_mark w4 _ 31 _ 2)
  have q4 : w6.cell? ⟨w4.heap.size, 4, none⟩ = some (.int .i32 a4) := (HA.out.oth 4 (by decide) (by decide)).trans (World.cell?_alloc_mark w4 _ 31 _ 4)
  have q5 : w6.cell? ⟨w4.heap.size, 5, none⟩ = some (.int .i32 a5) := (HA.out.oth 5 (by decide) (by decide)).trans (World.cell?_alloc_mark w4 _ 31 _ 5)
  have q6 : w6.cell? ⟨w4.heap.size, 6, none⟩ = some (.string a6) := (HA.out.oth 6 (by decide) (by decide)).trans (World.cell?_alloc_mark w4 _ 31 _ 6)
  have q7 : w6.cell? ⟨w4.heap.size, 7, none⟩ = some (.string { data := #[] }) := (HA.out.oth 7 (by decide) (by decide)).trans (World.cell?_alloc_mark w4 _ 31 _ 7)
  have q8 : w6.cell? ⟨w4.heap.size, 8, none⟩ = some (.string { data := #[] }) := (HA.out.oth 8 (by decide) (by decide)).trans (World.cell?_alloc_mark w4 _ 31 _ 8)
  have q9 : w6.cell? ⟨w4.heap.size, 9, none⟩ = some (.string { data := #[] }) := (HA.out.oth 9 (by decide) (by decide)).trans (World.cell?_alloc_mark w4 _ 31 _ 9)
  have q10 : w6.cell? ⟨w4.heap.size, 10, none⟩ = some (.string { data := #[] }) := (HA.out.oth 10 (by decide) (by decide)).trans (World.cell?_alloc_mark w4 _ 31 _ 10)
  have q11 : w6.cell? ⟨w4.heap.size, 11, none⟩ = some (.string { data := #[] }) := (HA.out.oth 11 (by decide) (by decide)).trans (World.cell?_alloc_mark w4 _ 31 _ 11)
  have q12 : w6.cell? ⟨w4.heap.size, 12, none⟩ = some (.string { data := #[] }) := (HA.out.oth 12 (by decide) (by decide)).trans (World.cell?_alloc_mark w4 _ 31 _ 12)
  have q13 : w6.cell? ⟨w4.heap.size, 13, none⟩ = some (.string a1) := (HA.out.oth 13 (by decide) (by decide)).trans (World.cell?_alloc_mark w4 _ 31 _ 13)
  have q14 : w6.cell? ⟨w4.heap.size, 14, none⟩ = some (.string { data := #[] }) := (HA.out.oth 14 (by decide) (by decide)).trans (World.cell?_alloc_mark w4 _ 31 _ 14)
  have q15 : w6.cell? ⟨w4.heap.size, 15, none⟩ = some (.bool !a8) := (HA.out.oth 15 (by decide) (by decide)).trans (World.cell?_alloc_mark w4 _ 31 _ 15)
  have q16 : w6.cell? ⟨w4.heap.size, 16, none⟩ = some (.string { data := #[] }) := (HA.out.oth 16 (by decide) (by decide)).trans (World.cell?_alloc_mark w4 _ 31 _ 16)
  have q17 : w6.cell? ⟨w4.heap.size, 17, none⟩ = some (.string { data := #[] }) := (HA.out.oth 17 (by decide) (by decide)).trans (World.cell?_alloc_mark w4 _ 31 _ 17)
  have q18 : w6.cell? ⟨w4.heap.size, 18, none⟩ = some (.string { data := #[] }) := (HA.out.oth 18 (by decide) (by decide)).trans (World.cell?_alloc_mark w4 _ 31 _ 18)
  have q20 : w6.cell? ⟨w4.heap.size, 20, none⟩ = some (.bool a8) := (HA.out.oth 20 (by decide) (by decide)).trans (World.cell?_alloc_mark w4 _ 31 _ 20)
  have X : Hid (Below w4.heap.size w4 w6) := hide ((grow_new w4 _).trans HA.out.bel)
  have T2 : Hid (Rd .u32 w4.heap.size w6 a2 len2 cap2 z2) := hide (((R2.out.below E14.out).mono E14.out.size).below X.out)
  have T7 : Hid (Rd .i32 w4.heap.size w6 a7 len7 cap7 z7) := hide (((R7.out.below E14.out).mono E14.out.size).below X.out)
  have T9 : Hid (Rd .i32 w4.heap.size w6 a9 len9 cap9 z9) := hide (R9'.out.below X.out)
  have E24 := hide (E3.out.trans (E4.out.mono E3.out.size))
  have E14' := hide (E2.out.trans (E24.out.mono E2.out.size))
  have U2 : Hid (Rd .u32 w4.heap.size w6 b2 len2 k2 z2) := hide (((S2.out.below E14'.out).mono E14'.out.size).below X.out)
  have U7 : Hid (Rd .i32 w4.heap.size w6 b7 len7 k7 z7) := hide (((S7.out.below E24.out).mono E24.out.size).below X.out)
  have U9 : Hid (Rd .i32 w4.heap.size w6 b9 len9 k9 z9) := hide (((S9.out.below E4.out).mono E4.out.size).below X.out)
  have U4 : Hid (Rd .i32 w4.heap.size w6 (some ⟨g, 0, none⟩) len9 len9 (srt z9)) := hide (S4.out.below X.out)
  have EB : Hid (Below w.heap.size w w6) := hide (E14.out.trans (X.out.mono E14.out.size))
  have hwB : Hid (w.heap.size ≤ w4.heap.size) := hide E14.out.size
  have hl9 := R9.out.sz
  have c3 := HA.out.c3
  have C19 := hide (Also.of HA.out (size_new _ _))
  clear R9' X E24 E14' HA S2 S7 S9 S4 E1 E2 E3 E4 E13 E14 R2 R7 R9
  rw [hl9] at C19
  generalize w4.heap.size = B at *
  clear hl9 w1 w2 w3 w4
  obtain ⟨s0, hs0⟩ : ∃ s0, s0 = (srt z9)[0]?.getD 0 := ⟨_, rfl⟩
  rw [← hs0] at c3
  have HS0 := hide hs0
  clear hs0
  go_wp2_with fail
  refine (eq8_any a9 b9 cap9 k9 len9 B B z9 w6 (by omega) T9.out U9.out).mono ?_
  rintro e w7 ⟨rfl, m1, rfl⟩
  have hq1 := neq_nil 23 21 Yba.underlying23
  have hq2 := eql_nil 23 21 Yba.underlying23
  go_upto_if 73 with fail
  go_cut [] from 70 to 115 (fun wc => ∃ m, wc = w6.drewN m)
  case first =>
    by_cases h0 : len9 = 0
    · have hk : ((len9 : Int) == 0) = true := by simp; omega
      obtain rfl : s0 = 0 := by
        have h := HS0.out
        have hl : (srt z9).length = 0 := by rw [srt_length, T9.out.sz]; exact h0
        rw [List.eq_nil_of_length_eq_zero hl] at h
        exact h
      have c19 : w6.cell? ⟨B, 19, none⟩ = some (.slice none 0 0) := by
        rcases C19.out with ⟨_, c⟩ | ⟨h, _⟩
        · exact c
        · omega
      clear h0
      go_wp2_with fail
      go_meet
      case rel => exact ⟨_, rfl⟩
    · have hk : ((len9 : Int) == 0) = false := by simp; omega
      have cg : w6.cell? ⟨g, 0, none⟩ = some (.int .i32 s0) := by
        rcases U4.out.at' with h | ⟨b, off, e, _, hc⟩
        · omega
        · cases e
          have := hc 0 (by omega)
          rw [HS0.out]
          exact this
      obtain ⟨wm, hwm⟩ : ∃ wm, wm = w6.drewN m1 := ⟨_, rfl⟩
      have hF : ∀ p, wm.cell? p = w6.cell? p := by intro p; rw [hwm]; rfl
      rw [← hwm]
      have HM := hide hwm
      clear hwm
      have hp9 : 0 < len9 := by omega
      by_cases h1 : len9 = 1
      · have hk1 : ((len9 : Int) == 1) = true := by simp; omega
        have c19 : w6.cell? ⟨B, 19, none⟩ = some (.slice none 0 0) := by
          rcases C19.out with ⟨_, c⟩ | ⟨h, _⟩
          · exact c
          · omega
        clear h0 h1
        go_wp2_with fail
        go_quiet (fail)
        go_wp2_with fail
        go_meet
        case rel => exact ⟨_, by rw [HM.out]; exact World.drewN_drewN _ _ _⟩
      · have hk1 : ((len9 : Int) == 1) = false := by simp; omega
        obtain ⟨q, cq, c19, hcq, hBq, hqs, hqf⟩ : ∃ g cap, w6.cell? ⟨B, 19, none⟩ = some (.slice (some ⟨g, 1, none⟩) (len9 - 1) cap) ∧ len9 - 1 ≤ cap ∧ B < g ∧ (∀ j, j < len9 → w6.cell? ⟨g, j, none⟩ = some (.int .i32 ((srt z9)[j]?.getD 0))) ∧ ∀ j, w6.frozen? ⟨g, j, none⟩ = false := by
          rcases C19.out with ⟨h, _⟩ | ⟨_, h⟩
          · omega
          · exact h
        have HEq : Hid (∀ wx : World, (∀ p, wx.cell? p = w6.cell? p) → Calls Yba.prog 8 #[.slice (some ⟨q, 1, none⟩) (len9 - 1) cq, .slice (some ⟨g, 1, none⟩) (len9 - 1) (len9 - 1)] wx fun e w' => e = .returned (.bool true) ∧ ∃ m, w' = wx.drewN m) := hide (fun wx hx => eq8_pos q 1 g 1 cq (len9 - 1) (len9 - 1) ((srt z9).drop 1) wx (by omega)
          (fun j hj => by rw [hx, hqs (1 + j) (by omega)]; simp [Nat.add_comm])
          (fun j hj => by
            rcases U4.out.at' with h | ⟨b, off, e, _, hc⟩
            · omega
            · cases e
              have := hc (1 + j) (by omega)
              rw [Nat.zero_add] at this
              rw [hx, this]; simp [Nat.add_comm]))
        have h2 : 1 < len9 := by omega
        clear h0 h1 hqs hqf
        go_wp2_with fail
        go_quiet (fail)
        obtain ⟨wn, hwn⟩ : ∃ wn, wn = wm.drewN nq := ⟨_, rfl⟩
        have hF2 : ∀ p, wn.cell? p = w6.cell? p := by intro p; rw [hwn, World.cell?_drewN, hF]
        rw [← hwn]
        have HN := hide hwn
        clear hwn
        go_wp2_with fail
        go_quiet (first | (go_at_call 8; refine Calls.quiet_of (HEq.out _ (fun p => by rw [World.cell?_drewN, hF2]))))
        go_wp2_with fail
        go_meet
        case rel => exact ⟨_, by rw [HN.out, HM.out, World.drewN_drewN, World.drewN_drewN]⟩
  case rest =>
    obtain ⟨m2, rfl⟩ := hcut
    clear U4 HS0 c3 hd9
    go_upto_if 178 with fail
    go_upto_if 246 with fail
    have hq3 := eql_nil 28 25 Yba.underlying28
    have hq4 := eql_nil 22 25 Yba.underlying22
    have hn2 := HN2.out
    go_wp2_with fail
    refine (eq9_any b2 a2 k2 cap2 len2 B B z2 (w6.drewN m2) (by omega) (U2.out.drewN m2) (T2.out.drewN m2)).mono ?_
    rintro e w8 ⟨rfl, m3, rfl⟩
    clear hn2 hq3 hq4 T2 U2 HN2
    go_wp2_with fail
    refine (eq8_any b7 a7 k7 cap7 len7 B B z7 (w6.drewN (m2 + m3)) (by omega) (U7.out.drewN _) (T7.out.drewN _)).mono ?_
    rintro e w8 ⟨rfl, m4, rfl⟩
    clear T7 U7 hq1 hq2
    obtain ⟨wm, hwm⟩ : ∃ wm, wm = (w6.drewN (m2 + m3)).drewN m4 := ⟨_, rfl⟩
    have EM : Hid (Below w.heap.size w wm) := hide (by rw [hwm]; exact Below.drewN' (Below.drewN' EB.out _) _)
    have T9m : Hid (Rd .i32 B wm a9 len9 cap9 z9) := hide (by rw [hwm]; exact (T9.out.drewN _).drewN _)
    have U9m : Hid (Rd .i32 B wm b9 len9 k9 z9) := hide (by rw [hwm]; exact (U9.out.drewN _).drewN _)
    have C19m : Hid (Also B wm len9 z9) := hide (by rw [hwm]; exact C19.out)
    rw [← hwm]
    clear hwm EB T9 U9 C19 q0 q1 q2 q4 q5 q6 q7 q8 q9 q10 q11 q12 q13 q14 q15 q16 q17 q18 q20
    rcases C19m.out with ⟨_, c19⟩ | ⟨hl2, q, cq, c19, hcq, hBq, hqs, hqf⟩
    · go_wp2_with fail
      refine wp_loop_rounds 1 ?_
      rw [rounds_succ]
      go_wp2_with fail
      refine (eq8_any a9 b9 cap9 k9 len9 B B z9 wm (by omega) T9m.out U9m.out).mono ?_
      rintro e w9 ⟨rfl, m5, rfl⟩
      go_wp2_with fail
      go_ret
      exact ⟨rfl, Below.drewN' EM.out _⟩
    · have HL : Hid (Lp B q cq len9 wm wm) := hide ⟨Below.refl _ _, c19, fun j hj => ⟨_, hqs j hj⟩, hqf⟩
      clear hqs hqf C19m
      go_wp2_with fail
      clear c19
      go_loopw [273] (fun v wr => ∃ i : Nat, v = .int .i64 i ∧ i ≤ len9 - 1 ∧ Hid (Lp B q cq len9 wm wr)) (fun v _ => len9 - (intOf v).toNat)
      case atStart => exact ⟨0, rfl, Nat.zero_le _, HL⟩
      case round =>
        clear HL
        obtain ⟨i, rfl, hi, HL⟩ := hrel
        by_cases hlt : i < len9 - 1
        · have c19 := HL.out.c19
          obtain ⟨z, ci⟩ := HL.out.cs (1 + i) (by omega)
          have fi := HL.out.fs (1 + i)
          go_wp2_with fail
          go_region
          all_goals go_wp2
          exact ⟨⟨i + 1, by simp, by omega, hide ((HL.out.set hBq _ _).drew)⟩, by simp [intOf]; omega⟩
        · have hie : i = len9 - 1 := by omega
          subst hie
          go_wp2_with fail
          refine (eq8_any a9 b9 cap9 k9 len9 B B z9 wr (by omega) (T9m.out.below HL.out.bel) (U9m.out.below HL.out.bel)).mono ?_
          rintro e w9 ⟨rfl, m5, rfl⟩
          go_wp2_with fail
          go_ret
          exact ⟨rfl, Below.drewN' (EM.out.trans (HL.out.bel.mono hwB.out)) _⟩

theorem law_any (a0 : Int) (a1 : ByteArray) (a2 : Option Addr) (len2 cap2 : Nat) (a3 a4 a5 : Int) (a6 : ByteArray) (a7 : Option Addr) (len7 cap7 : Nat) (a8 : Bool) (a9 : Option Addr) (len9 cap9 : Nat) (z2 z7 z9 : List Int) (w : World)
    (r2 : Rd .u32 w.heap.size w a2 len2 cap2 z2) (r7 : Rd .i32 w.heap.size w a7 len7 cap7 z7) (r9 : Rd .i32 w.heap.size w a9 len9 cap9 z9) :
    Calls Yba.prog 3 #[.int .i32 a0, .string a1, .slice a2 len2 cap2, .int .i32 a3, .int .i32 a4, .int .i32 a5, .string a6, .slice a7 len7 cap7, .bool a8, .slice a9 len9 cap9] w fun e w' => e = .returned (.bool true) ∧ Below w.heap.size w w' := by
  by_cases h : 4096 < len9 ∨ 1048576 < len7 ∨ 1048576 < len2
  · exact (law_big a0 a1 a2 len2 cap2 a3 a4 a5 a6 a7 len7 cap7 a8 a9 len9 cap9 w h).mono fun e w' ⟨he, hw⟩ => ⟨he, by rw [hw]; exact Below.refl _ _⟩
  · exact law_main a0 a1 a2 len2 cap2 a3 a4 a5 a6 a7 len7 cap7 a8 a9 len9 cap9 z2 z7 z9 w (by omega) (by omega) (by omega) r2 r7 r9
end Go.Proofs.Ybulkdtay
