import Derived.Test.YbulkdtayRow
import Derived.Test.YbulkdtayShelf
namespace Go.Proofs.Ybulkdtay
open Go.RowKit

theorem owns_heap {w w' : World} {base g n cap : Nat} {xs : List Value} (h : w.ownsRow base 21 1 (.slice (some ⟨g, 0, none⟩) n cap) n xs) (e : w'.heap[g]? = w.heap[g]?) : w'.ownsRow base 21 1 (.slice (some ⟨g, 0, none⟩) n cap) n xs := by
  refine ⟨h.1, ?_⟩
  rcases h.2 with h' | ⟨g', cap', cur, h', hb, hg, rest⟩
  · exact .inl h'
  · cases h'
    exact .inr ⟨g, cap, cur, rfl, hb, e.trans hg, rest⟩
section
variable {base g n cap : Nat} {w0 wl : World} {d : Array Int}
theorem Srt.lt (h : Srt base g w0 wl n cap d) (hn : 0 < n) : g < wl.heap.size := by
  have := h.cell 0 hn
  rcases Nat.lt_or_ge g wl.heap.size with h1 | h1
  · exact h1
  · simp [World.cell?, Array.getElem?_eq_none h1] at this
theorem Srt.other (h : Srt base g w0 wl n cap d) (S k : Nat) (v : Value) (hS : w0.heap.size ≤ S) (hne : g ≠ S) : Srt base g w0 (wl.setCell ⟨S, k, none⟩ v) n cap d := by
  refine ⟨owns_heap h.own (Below.heap_setCell _ _ _ _ hne), ⟨h.gr.os, h.gr.tape, h.gr.output, by simp [World.setCell]; exact h.gr.size, fun i hi hr => ?_⟩, h.sz, h.small⟩
  rw [Below.heap_setCell _ _ _ _ (show i ≠ S by omega)]
  exact h.gr.block i hi hr
theorem Srt.alloc (h : Srt base g w0 wl n cap d) (o : Obj) (hn : 0 < n) : Srt base g w0 (wl.alloc o) n cap d := by
  refine ⟨owns_heap h.own (Below.heap_alloc _ _ _ (h.lt hn)), ⟨h.gr.os, h.gr.tape, h.gr.output, by have := h.gr.size; simp; omega, fun i hi hr => ?_⟩, h.sz, h.small⟩
  rw [Below.heap_alloc _ _ _ (Nat.lt_of_lt_of_le hi h.gr.size)]
  exact h.gr.block i hi hr
end

theorem cell_at {w : World} {b : Nat} {cs : Array Value} {T : TypeId} {fr : Nat × Nat} (hb : w.heap[b]? = some (.cells cs T fr)) (j : Nat) : w.cell? ⟨b, j, none⟩ = cs[j]? := by simp [World.cell?, hb]
theorem frozen_at {w : World} {b : Nat} {cs : Array Value} {T : TypeId} (hb : w.heap[b]? = some (.cells cs T (0, 0))) (j : Nat) : w.frozen? ⟨b, j, none⟩ = false := by simp [World.frozen?, hb]
/-- The row, and a counter in a block of its own. -/
structure Sw (base g : Nat) (w0 wl : World) (n cap : Nat) (d : Array Int) (S : Nat) : Prop where
  srt : Srt base g w0 wl n cap d
  lo : w0.heap.size ≤ S
  ne : g ≠ S
  cell : ∃ k : Int, wl.cell? ⟨S, 0, none⟩ = some (.int .i64 k)
  froz : wl.frozen? ⟨S, 0, none⟩ = false

set_option maxHeartbeats 2000000 in
set_option maxRecDepth 100000 in
/-- order2Ordered. -/
theorem order2_any (base g a b S n cap : Nat) (d : Array Int) (w0 w : World) (h : Sw base g w0 w n cap d S) (ha : a < n) (hb : b < n) :
    Calls Yba.prog 35 #[.slice (some ⟨g, 0, none⟩) n cap, .int .i64 a, .int .i64 b, .pointer (some ⟨S, 0, none⟩)] w fun e w' => (∃ x y : Nat, e = .returned (.tuple #[.int .i64 x, .int .i64 y]) ∧ ((x = a ∧ y = b) ∨ (x = b ∧ y = a))) ∧ Sw base g w0 w' n cap d S := by
  have HW := hide h
  have HS := hide h.srt
  obtain ⟨k, hk⟩ := h.cell
  have hfz := h.froz
  clear h
  obtain ⟨G, hG⟩ : ∃ G : Nat → Int, ∀ t, G t = d[t]! := ⟨fun t => d[t]!, fun _ => rfl⟩
  have hcw : ∀ t, t < n → w.cell? ⟨g, t, none⟩ = some (.int .i32 (G t)) := fun t ht => by rw [hG]; exact HS.out.cell t ht
  have hfw : ∀ t, t < n → w.frozen? ⟨g, t, none⟩ = false := fun t _ => HS.out.froz t
  have HG := hide hG
  clear hG
  have c0 := hcw (a) (by omega)
  have f0 := hfw (a) (by omega)
  have n0 : a < n := by omega
  have c1 := hcw (b) (by omega)
  have f1 := hfw (b) (by omega)
  have n1 : b < n := by omega
  have HW1 : Hid (∀ q, Sw base g w0 (w.drewN q) n cap d S) := hide (fun q => ⟨HS.out.drewN q, HW.out.lo, HW.out.ne, HW.out.cell, HW.out.froz⟩)
  have HW2 : Hid (∀ q v, Sw base g w0 ((w.drewN q).setCell ⟨S, 0, none⟩ (.int .i64 v)) n cap d S) := hide (fun q v => ⟨(HS.out.drewN q).other S 0 _ HW.out.lo HW.out.ne, HW.out.lo, HW.out.ne, ⟨v, World.cell?_setCell_same _ _ _ (show (w.drewN q).cell? _ = _ from hk)⟩, by rw [World.frozen?_setCell]; exact hfz⟩)
  go_enter Yba.func35, Yba.ntmps35
  go_wp2_with fail
  go_quiet (first | (go_at_call 24; refine Calls.quiet_of_same (less_any _ _ _)))
  go_wp2_with fail
  · exact bodyPost_ret (v := .tuple #[.int .i64 b, .int .i64 a]) (by simp [results, Yba.results35, go_sem]) rfl ⟨⟨b, a, rfl, .inr ⟨rfl, rfl⟩⟩, HW2.out _ _⟩
  · exact bodyPost_ret (v := .tuple #[.int .i64 a, .int .i64 b]) (by simp [results, Yba.results35, go_sem]) rfl ⟨⟨a, b, rfl, .inl ⟨rfl, rfl⟩⟩, HW1.out _⟩

set_option maxHeartbeats 2000000 in
set_option maxRecDepth 100000 in
/-- medianOrdered. -/
theorem median_any (base g a b c S n cap : Nat) (d : Array Int) (w0 w : World) (h : Sw base g w0 w n cap d S) (ha : a < n) (hb : b < n) (hc : c < n) :
    Calls Yba.prog 33 #[.slice (some ⟨g, 0, none⟩) n cap, .int .i64 a, .int .i64 b, .int .i64 c, .pointer (some ⟨S, 0, none⟩)] w fun e w' => (∃ x : Nat, e = .returned (.int .i64 x) ∧ (x = a ∨ x = b ∨ x = c)) ∧ Sw base g w0 w' n cap d S := by
  have HW := hide h
  clear h
  go_enter Yba.func33, Yba.ntmps33
  go_wp2_with fail
  refine (order2_any base g a b S n cap d w0 w HW.out ha hb).mono ?_
  rintro e w1 ⟨⟨x1, y1, rfl, hxy1⟩, h1⟩
  have HW1 := hide h1
  clear h1 HW
  have hx1 : x1 = a ∨ x1 = b := by omega
  have hy1 : y1 = a ∨ y1 = b := by omega
  go_wp2_with fail
  refine (order2_any base g y1 c S n cap d w0 w1 HW1.out (by omega) hc).mono ?_
  rintro e w2 ⟨⟨x2, y2, rfl, hxy2⟩, h2⟩
  have HW2 := hide h2
  clear h2 HW1
  go_wp2_with fail
  refine (order2_any base g x1 x2 S n cap d w0 w2 HW2.out (by omega) (by omega)).mono ?_
  rintro e w3 ⟨⟨x3, y3, rfl, hxy3⟩, h3⟩
  have HW3 := hide h3
  clear h3 HW2
  go_wp2_with fail
  exact bodyPost_ret (v := .int .i64 y3) (by simp [results, Yba.results33, go_sem]) rfl ⟨⟨y3, rfl, by omega⟩, HW3.out⟩

set_option maxHeartbeats 2000000 in
set_option maxRecDepth 100000 in
/-- medianAdjacentOrdered. -/
theorem medadj_any (base g a S n cap : Nat) (d : Array Int) (w0 w : World) (h : Sw base g w0 w n cap d S) (ha : 0 < a) (hb : a + 1 < n) :
    Calls Yba.prog 32 #[.slice (some ⟨g, 0, none⟩) n cap, .int .i64 a, .pointer (some ⟨S, 0, none⟩)] w fun e w' => (∃ x : Nat, e = .returned (.int .i64 x) ∧ a - 1 ≤ x ∧ x ≤ a + 1) ∧ Sw base g w0 w' n cap d S := by
  have HW := hide h
  have hsm := h.srt.small
  clear h
  have ea : (a : Int) - 1 = ((a - 1 : Nat) : Int) := by omega
  have eb : (a : Int) + 1 = ((a + 1 : Nat) : Int) := by omega
  have HM := hide (median_any base g (a - 1) a (a + 1) S n cap d w0 w HW.out (by omega) (by omega) hb)
  rw [← ea, ← eb] at HM
  clear ea eb
  go_enter Yba.func32, Yba.ntmps32
  go_wp2_with fail
  refine HM.out.mono ?_
  rintro e w1 ⟨⟨x, rfl, hx⟩, h1⟩
  go_wp2_with fail
  exact bodyPost_ret (v := .int .i64 x) (by simp [results, Yba.results32, go_sem]) rfl ⟨⟨x, rfl, by omega, by omega⟩, h1⟩

set_option maxHeartbeats 4000000 in
set_option maxRecDepth 100000 in
/-- choosePivotOrdered, at more than twelve. -/
theorem choose_any (base g a b n cap : Nat) (d : Array Int) (w0 w : World) (h : Srt base g w0 w n cap d) (hab : a + 12 < b) (hb : b ≤ n) (hlo : w0.heap.size ≤ w.heap.size) :
    Calls Yba.prog 21 #[.slice (some ⟨g, 0, none⟩) n cap, .int .i64 a, .int .i64 b] w fun e w' => (∃ x t : Nat, e = .returned (.tuple #[.int .i64 x, .int .i64 t]) ∧ a ≤ x ∧ x < b ∧ t ≤ 2) ∧ Srt base g w0 w' n cap d := by
  have hsm := h.small
  have HW : Hid (Sw base g w0 (w.alloc (.cells #[.int .i64 0] 3)) n cap d w.heap.size) := hide ⟨h.alloc _ (by omega), hlo, Nat.ne_of_lt (h.lt (by omega)), ⟨0, by rw [cell_at (heap_alloc_new _ _)]; rfl⟩, frozen_at (heap_alloc_new _ _) 0⟩
  clear h
  obtain ⟨l, hl⟩ : ∃ l : Nat, l = b - a := ⟨_, rfl⟩
  have el : (b : Int) - (a : Int) = (l : Int) := by omega
  have hl12 : 12 < l := by omega
  have hlb : a + l = b := by omega
  have EL := hide el
  clear el hl
  go_enter Yba.func21, Yba.ntmps21
  go_upto_region 2 with fail
  rw [EL.out]
  go_upto_region 6 with fail
  obtain ⟨i, hi⟩ : ∃ i : Nat, i = a + l / 4 := ⟨_, rfl⟩
  obtain ⟨j, hj⟩ : ∃ j : Nat, j = a + l / 4 * 2 := ⟨_, rfl⟩
  obtain ⟨k, hk⟩ : ∃ k : Nat, k = a + l / 4 * 3 := ⟨_, rfl⟩
  have ei : (a : Int) + (l : Int) / 4 = (i : Int) := by omega
  have ej : (a : Int) + (l : Int) / 4 * 2 = (j : Int) := by omega
  have ek : (a : Int) + (l : Int) / 4 * 3 = (k : Int) := by omega
  rw [ek, ej, ei]
  have bi : a + 3 ≤ i ∧ i + 3 < b := by omega
  have bj : a + 3 ≤ j ∧ j + 3 < b := by omega
  have bk : a + 3 ≤ k ∧ k + 3 ≤ b := by omega
  clear ei ej ek hi hj hk
  generalize hS : w.heap.size = S at HW ⊢
  generalize w.alloc (.cells #[.int .i64 0] 3) = wa at HW ⊢
  clear hS hlo
  go_upto_if 32 with fail
  go_cut [11] from 13 (fun v wc => ∃ x : Nat, v = .int .i64 x ∧ a ≤ x ∧ x < b ∧ Hid (Sw base g w0 wc n cap d S))
  case first =>
    by_cases h50 : 50 ≤ l
    · have hkb : k + 1 < n := by omega
      go_wp2_with fail
      refine (medadj_any base g i S n cap d w0 wa HW.out (by omega) (by omega)).mono ?_
      rintro e w1 ⟨⟨x1, rfl, hx1⟩, h1⟩
      have HW1 := hide h1
      clear h1 HW
      go_wp2_with fail
      refine (medadj_any base g j S n cap d w0 w1 HW1.out (by omega) (by omega)).mono ?_
      rintro e w2 ⟨⟨x2, rfl, hx2⟩, h2⟩
      have HW2 := hide h2
      clear h2 HW1
      go_wp2_with fail
      refine (medadj_any base g k S n cap d w0 w2 HW2.out (by omega) (by omega)).mono ?_
      rintro e w3 ⟨⟨x3, rfl, hx3⟩, h3⟩
      have HW3 := hide h3
      clear h3 HW2
      go_wp2_with fail
      refine (median_any base g x1 x2 x3 S n cap d w0 w3 HW3.out (by omega) (by omega) (by omega)).mono ?_
      rintro e w4 ⟨⟨x, rfl, hx⟩, h4⟩
      have HW4 := hide h4
      clear h4 HW3
      go_wp2
      go_meet
      case rel => exact ⟨x, rfl, by omega, by omega, HW4⟩
    · go_wp2_with fail
      refine (median_any base g i j k S n cap d w0 wa HW.out (by omega) (by omega) (by omega)).mono ?_
      rintro e w4 ⟨⟨x, rfl, hx⟩, h4⟩
      have HW4 := hide h4
      clear h4 HW
      go_wp2
      go_meet
      case rel => exact ⟨x, rfl, by omega, by omega, HW4⟩
  case rest =>
    obtain ⟨x, rfl, hx1, hx2, HW2⟩ := hcut
    clear HW
    obtain ⟨m, hm⟩ := HW2.out.cell
    by_cases m0 : m = 0
    · have m0' : (m == 0) = true := by simp [m0]
      clear m0
      go_wp2
      exact bodyPost_ret (v := .tuple #[.int .i64 x, .int .i64 1]) (by simp [results, Yba.results21, go_sem]) rfl ⟨⟨x, 1, rfl, hx1, hx2, by omega⟩, HW2.out.srt⟩
    · have m0' : (m == 0) = false := by simp [m0]
      clear m0
      by_cases m12 : m = 12
      · have m12' : (m == 12) = true := by simp [m12]
        clear m12
        go_wp2
        exact bodyPost_ret (v := .tuple #[.int .i64 x, .int .i64 2]) (by simp [results, Yba.results21, go_sem]) rfl ⟨⟨x, 2, rfl, hx1, hx2, by omega⟩, HW2.out.srt⟩
      · have m12' : (m == 12) = false := by simp [m12]
        clear m12
        go_wp2
        exact bodyPost_ret (v := .tuple #[.int .i64 x, .int .i64 0]) (by simp [results, Yba.results21, go_sem]) rfl ⟨⟨x, 0, rfl, hx1, hx2, by omega⟩, HW2.out.srt⟩
end Go.Proofs.Ybulkdtay
