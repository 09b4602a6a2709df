import Derived.Test.YbulkdtaySort
import Derived.Test.YbulkdtayIter
namespace Go.Proofs.Ybulkdtay
open Go.RowKit

set_option maxHeartbeats 1000000 in
set_option maxRecDepth 100000 in
/-- slices.Collect(slices.Values(s)). -/
theorem collect_any (Bs : Nat) (a : Option Addr) (len cap : Nat) (zs : List Int) (hlen : len ≤ 4096) (w : World) (hBs : Bs < w.heap.size)
    (hcs : w.cell? ⟨Bs, 0, none⟩ = some (.slice a len cap)) (hI : Rd .i32 w.heap.size w a len cap zs) :
    Calls Yba.prog 12 #[.func (.func 14) #[] #[.pointer (some ⟨Bs, 0, none⟩)]] w fun e W' => ∃ v, e = .returned v ∧ W'.ownsRow w.heap.size 21 1 v zs.length (zs.map (Value.int .i32)) ∧ (v = .slice none 0 0 ↔ zs = []) ∧ Below w.heap.size w W' := by
  have HA := hide (appendSeq_any Bs a len cap zs hlen w hBs hcs hI)
  clear hI hcs hBs
  go_enter Yba.func12, Yba.ntmps12
  go_wp2_with fail
  refine HA.out.mono ?_
  rintro e w1 ⟨v, rfl, h⟩
  go_wp2_with fail
  go_ret
  exact ⟨v, rfl, h⟩

theorem srt_nil : srt [] = [] := by simp [srt]
theorem srt_length (zs : List Int) : (srt zs).length = zs.length := List.length_mergeSort zs
theorem i32s_list (zs : List Int) : i32s zs.toArray = zs.map (Value.int .i32) := by simp [i32s]

/-- What lies behind slices.Sorted: nothing, or a row of its own. -/
structure Own32 (base : Nat) (w' : World) (v : Value) (zs : List Int) : Prop where
  alt : (v = .slice none 0 0 ∧ zs = []) ∨ ∃ g cap, v = .slice (some ⟨g, 0, none⟩) zs.length cap ∧ zs ≠ [] ∧ base ≤ g ∧ g < w'.heap.size ∧ zs.length ≤ cap ∧ (∀ j, j < zs.length → w'.cell? ⟨g, j, none⟩ = some (.int .i32 (zs[j]?.getD 0))) ∧ ∀ j, w'.frozen? ⟨g, j, none⟩ = false

set_option maxHeartbeats 1000000 in
set_option maxRecDepth 100000 in
/-- slices.Sorted(slices.Values(s)). -/
theorem sorted_any (Bs : Nat) (a : Option Addr) (len cap : Nat) (zs : List Int) (hlen : len ≤ 4096) (w : World) (hBs : Bs < w.heap.size)
    (hcs : w.cell? ⟨Bs, 0, none⟩ = some (.slice a len cap)) (hI : Rd .i32 w.heap.size w a len cap zs) :
    Calls Yba.prog 10 #[.func (.func 14) #[] #[.pointer (some ⟨Bs, 0, none⟩)]] w fun e W' => ∃ v, e = .returned v ∧ Own32 w.heap.size W' v (srt zs) ∧ Below w.heap.size w W' := by
  have HA := hide (collect_any Bs a len cap zs hlen w hBs hcs hI)
  obtain rfl := hI.sz
  clear hI hcs hBs
  go_enter Yba.func10, Yba.ntmps10
  go_wp2_with fail
  refine HA.out.mono ?_
  rintro e w1 ⟨v, rfl, hrow, hnil, hB⟩
  have hrow' := hrow
  rcases hrow'.2 with ⟨rfl, h0⟩ | ⟨g, cp, cur, rfl, hb, hg, h1, h2, h3, h4⟩
  · have hz := hnil.1 rfl
    subst hz
    have HB := hide hB
    clear hrow hrow' hnil hB
    go_wp2_with fail
    refine (sort_nil _).mono ?_
    rintro e w2 ⟨rfl, rfl⟩
    go_wp2_with fail
    go_ret
    exact ⟨_, rfl, ⟨.inl ⟨rfl, srt_nil⟩⟩, HB.out⟩
  · have hne : zs ≠ [] := fun e => by have := hnil.2 e; cases this
    have hl0 : 0 < zs.length := List.length_pos_iff.2 hne
    have HS : Hid (Srt w.heap.size g w1 w1 zs.length cp zs.toArray) := hide ⟨by rw [i32s_list]; exact hrow, ⟨rfl, rfl, rfl, Nat.le_refl _, fun _ _ _ => rfl⟩, by simp, by omega⟩
    have HB := hide hB
    have HN := hide hne
    have HG := hide hb
    clear hrow hrow' hnil hB hb hg h1 h2 h3 h4 hne
    go_wp2_with fail
    refine (sort_any w.heap.size g zs.length cp zs.toArray w1 _ HS.out hl0).mono ?_
    rintro e w2 ⟨rfl, d', hS, hd⟩
    have HD := hide hd
    have HS2 := hide hS
    clear hd hS
    go_wp2_with fail
    go_ret
    have hd : d'.toList = srt zs := by simpa using HD.out
    have hl : (srt zs).length = zs.length := srt_length zs
    have hlt : g < w2.heap.size := by
      rcases HS2.out.own.2 with ⟨h, _⟩ | ⟨g', c', cur, h, _, hh, _⟩
      · cases h
      · cases h; exact (Array.getElem?_eq_some_iff.1 hh).1
    have hcap : zs.length ≤ cp := by
      rcases HS2.out.own.2 with ⟨h, _⟩ | ⟨g', c', cur, h, _, hh, hle, _⟩
      · cases h
      · cases h; exact hle
    refine ⟨_, rfl, ⟨.inr ⟨g, cp, by rw [hl]; rfl, ?_, HG.out, hlt, by rw [hl]; exact hcap, ?_, HS2.out.froz⟩⟩, ?_⟩
    · intro e
      rw [e] at hl
      exact HN.out (List.eq_nil_of_length_eq_zero hl.symm)
    · intro j hj
      rw [HS2.out.cell j (by omega)]
      have : d'[j]! = (srt zs)[j]?.getD 0 := by
        rw [← hd]
        have hs := HS2.out.sz
        have hj' : j < d'.size := by omega
        simp [hj']
      rw [this]
    · exact HB.out.grown HS2.out.gr HB.out.size (fun k e => by cases e; exact HG.out)
end Go.Proofs.Ybulkdtay
