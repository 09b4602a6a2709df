import Derived.Test.YbulkdtayRows
import Derived.WalkKit
import Derived.BigGuard
import Derived.BigCall
import Derived.CellFam
import Derived.Deep.Draws
import Derived.Deep.QuietTactic
import Derived.BigQuiet
import Derived.Deep.Cut
import Derived.Deep.CutRange
import Derived.Laws.OwnMore
import Derived.OwnWalk
import Derived.Sort.AssemblyPlain
namespace Go.Proofs.Ybulkdtay
open Go.RowKit

/-- A hypothesis that the walk is not to use. -/
def Hid (p : Prop) : Prop := p
theorem hide {p : Prop} (h : p) : Hid p := h
theorem Hid.out {p : Prop} (h : Hid p) : p := h

def i32s (d : Array Int) : List Value := d.toList.map (Value.int .i32)
/-- The row that is being sorted: n elements in block g. -/
structure Srt (base g : Nat) (w0 wl : World) (n cap : Nat) (d : Array Int) : Prop where
  own : wl.ownsRow base 21 1 (.slice (some ⟨g, 0, none⟩) n cap) n (i32s d)
  gr : w0.grownBy wl (some g)
  sz : d.size = n
  small : n ≤ 4096

theorem i32s_at (d : Array Int) (i : Nat) (h : i < d.size) : (i32s d)[i]? = some (.int .i32 d[i]!) := by
  simp [i32s, h]

section
variable {base g n cap : Nat} {w0 wl : World} {d : Array Int}
theorem Srt.cell (h : Srt base g w0 wl n cap d) (i : Nat) (hi : i < n) : wl.cell? ⟨g, i, none⟩ = some (.int .i32 d[i]!) := by
  rw [h.own.cellAt i (by omega), i32s_at d i (by rw [h.sz]; exact hi)]
theorem Srt.froz (h : Srt base g w0 wl n cap d) (i : Nat) : wl.frozen? ⟨g, i, none⟩ = false := h.own.frozenAt i
theorem grownBy_drewN {w0 wl : World} {r : Option Nat} (h : w0.grownBy wl r) (q : Nat) : w0.grownBy (wl.drewN q) r := ⟨h.os, h.tape, h.output, h.size, h.block⟩
theorem Srt.drewN (h : Srt base g w0 wl n cap d) (q : Nat) : Srt base g w0 (wl.drewN q) n cap d := ⟨h.own, grownBy_drewN h.gr q, h.sz, h.small⟩
theorem Srt.drew (h : Srt base g w0 wl n cap d) : Srt base g w0 wl.drew n cap d := ⟨h.own, ⟨h.gr.os, h.gr.tape, h.gr.output, h.gr.size, h.gr.block⟩, h.sz, h.small⟩
theorem grownBy_two {a b c : World} {r : Option Nat} (h1 : a.grownBy b r) (h2 : b.grownBy c r) : a.grownBy c r :=
  ⟨h2.os.trans h1.os, h2.tape.trans h1.tape, h2.output.trans h1.output, Nat.le_trans h1.size h2.size, fun k hk hr => (h2.block k (Nat.lt_of_lt_of_le hk h1.size) hr).trans (h1.block k hk hr)⟩
theorem Srt.swap (h : Srt base g w0 wl n cap d) (i j : Nat) :
    Srt base g w0 ((wl.setCell ⟨g, i, none⟩ (.int .i32 d[j]!)).setCell ⟨g, j, none⟩ (.int .i32 d[i]!)) n cap (Sort.swp d i j) := by
  obtain ⟨o1, g1⟩ := h.own.stored i (.int .i32 d[j]!)
  obtain ⟨o2, g2⟩ := o1.stored j (.int .i32 d[i]!)
  refine ⟨?_, grownBy_two h.gr (grownBy_two g1 g2), by simp [Sort.swp, h.sz], h.small⟩
  have e : i32s (Sort.swp d i j) = ((i32s d).set i (.int .i32 d[j]!)).set j (.int .i32 d[i]!) := by
    simp only [i32s, Sort.swp, Array.toList_setIfInBounds, List.map_set]
  rw [e]
  exact o2
end

/-- cmp.isNaN at int32. -/
theorem isnan_any (x : Int) (w : World) : Calls Yba.prog 34 #[.int .i32 x] w fun e w' => e = .returned (.bool false) ∧ w' = w := by
  go_enter Yba.func34, Yba.ntmps34
  go_wp2
  go_ret
  exact ⟨rfl, rfl⟩
/-- cmp.Less at int32. -/
theorem less_any (x y : Int) (w : World) : Calls Yba.prog 24 #[.int .i32 x, .int .i32 y] w fun e w' => e = .returned (.bool (Sort.ltInt x y)) ∧ w' = w := by
  go_enter Yba.func24, Yba.ntmps24
  go_wp2_with (go_at_call 34; refine (isnan_any _ _).mono ?_; rintro e w' ⟨rfl, rfl⟩)
  go_ret
  exact ⟨rfl, rfl⟩

theorem rev_go (i j : Nat) (d : Array Int) (h : i < j) : Sort.reverseLoop i j d = Sort.reverseLoop (i + 1) (j - 1) (Sort.swp d i j) := by rw [Sort.reverseLoop, if_pos h]
theorem rev_stop (i j : Nat) (d : Array Int) (h : ¬ i < j) : Sort.reverseLoop i j d = d := by rw [Sort.reverseLoop, if_neg h]

set_option maxHeartbeats 2000000 in
set_option maxRecDepth 100000 in
/-- reverseRangeOrdered. -/
theorem rev_any (base g a b n cap : Nat) (d : Array Int) (w0 w : World) (h : Srt base g w0 w n cap d) (hab : a < b) (hb : b ≤ n) :
    Calls Yba.prog 22 #[.slice (some ⟨g, 0, none⟩) n cap, .int .i64 a, .int .i64 b] w fun e w' => e = .returned (.tuple #[]) ∧ Srt base g w0 w' n cap (Sort.reverseRange d a b) := by
  have hsm := h.small
  have HS := hide h
  have HR := hide (show Sort.reverseLoop a (b - 1) d = Sort.reverseRange d a b from rfl)
  generalize Sort.reverseRange d a b = R at HR ⊢
  clear h
  go_enter Yba.func22, Yba.ntmps22
  go_wp2_with fail
  go_loopw [6, 7] (fun vi vj wr => ∃ (i j : Nat) (dk : Array Int), vi = .int .i64 i ∧ vj = .int .i64 j ∧ i ≤ b ∧ j < b ∧ Hid (Srt base g w0 wr n cap dk) ∧ Hid (Sort.reverseLoop i j dk = R)) (fun vi vj _ => (intOf vj - intOf vi).toNat)
  case atStart => exact ⟨a, b - 1, d, rfl, by go_num, by omega, by omega, HS, HR⟩
  case round =>
    clear HS HR
    obtain ⟨i, j, dk, rfl, rfl, hi, hj, HS, HR⟩ := hrel
    obtain ⟨G, hG⟩ : ∃ G : Nat → Int, ∀ t, G t = dk[t]! := ⟨fun t => dk[t]!, fun _ => rfl⟩
    have hcw : ∀ t, t < n → wr.cell? ⟨g, t, none⟩ = some (.int .i32 (G t)) := fun t ht => by rw [hG]; exact HS.out.cell t ht
    have hfw : ∀ t, t < n → wr.frozen? ⟨g, t, none⟩ = false := fun t _ => HS.out.froz t
    have HG := hide hG
    clear hG
    by_cases hlt : i < j
    · have ci := hcw i (by omega)
      have cj := hcw j (by omega)
      have fi := hfw i (by omega)
      have fj := hfw j (by omega)
      have hni : i < n := by omega
      have hnj : j < n := by omega
      go_wp2_with fail
      go_region
      all_goals go_wp2
      refine ⟨⟨i + 1, j - 1, Sort.swp dk i j, by simp, by simp; omega, by omega, by omega, hide ?_, hide ((rev_go i j dk hlt).symm.trans HR.out)⟩, by simp [intOf]; omega⟩
      rw [HG.out, HG.out]
      exact (HS.out.swap i j).drew
    · go_wp2
      go_end0
      refine ⟨rfl, ?_⟩
      rw [← HR.out, rev_stop _ _ _ hlt]
      exact HS.out
end Go.Proofs.Ybulkdtay
