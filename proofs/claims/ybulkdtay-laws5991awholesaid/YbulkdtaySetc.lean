import Derived.Test.YbulkdtaySorted
namespace Go.Proofs.Ybulkdtay
open Go.RowKit

/-- What SetContainers leaves of the struct at block B. -/
structure After (B : Nat) (w w' : World) (zs : List Int) : Prop where
  bel : Below B w w'
  c3 : w'.cell? ⟨B, 3, none⟩ = some (.int .i32 ((srt zs)[0]?.getD 0))
  c19 : (zs.length ≤ 1 ∧ w'.cell? ⟨B, 19, none⟩ = some (.slice none 0 0)) ∨ (2 ≤ zs.length ∧ ∃ g cap, w'.cell? ⟨B, 19, none⟩ = some (.slice (some ⟨g, 1, none⟩) (zs.length - 1) cap) ∧ zs.length - 1 ≤ cap ∧ w.heap.size ≤ g ∧ g < w'.heap.size ∧ (∀ j, j < zs.length → w'.cell? ⟨g, j, none⟩ = some (.int .i32 ((srt zs)[j]?.getD 0))) ∧ ∀ j, w'.frozen? ⟨g, j, none⟩ = false)
  oth : ∀ j, j ≠ 3 → j ≠ 19 → w'.cell? ⟨B, j, none⟩ = w.cell? ⟨B, j, none⟩
  froz : ∀ j, w'.frozen? ⟨B, j, none⟩ = w.frozen? ⟨B, j, none⟩

theorem set_ne (w : World) (a b : Addr) (v : Value) (h : a ≠ b) : (w.setCell a v).cell? b = w.cell? b := World.cell?_setCell_other w _ _ _ h
theorem set_some (w : World) (a b : Addr) (v : Value) (h : (w.cell? b).isSome = true) : ((w.setCell a v).cell? b).isSome = true := by
  by_cases e : a = b
  · subst e; rw [World.cell?_setCell_same' _ _ _ h]; rfl
  · rw [set_ne _ _ _ _ e]; exact h
theorem set_fz (w : World) (a b : Addr) (v : Value) : (w.setCell a v).frozen? b = w.frozen? b := by simp
/-- Cells 3 and 19 of block B alone have been written. -/
structure Wr (B : Nat) (w w' : World) : Prop where
  bel : Below B w w'
  siz : w'.heap.size = w.heap.size
  oth : ∀ p, p ≠ ⟨B, 3, none⟩ → p ≠ ⟨B, 19, none⟩ → w'.cell? p = w.cell? p
  froz : ∀ p, w'.frozen? p = w.frozen? p
theorem Wr.refl (B : Nat) (w : World) : Wr B w w := ⟨Below.refl _ _, rfl, fun _ _ _ => rfl, fun _ => rfl⟩
theorem Wr.set3 {B : Nat} {w w' : World} (h : Wr B w w') (v : Value) : Wr B w (w'.setCell ⟨B, 3, none⟩ v) :=
  ⟨h.bel.setCell (p := ⟨B, 3, none⟩) (Nat.le_refl _) _, by rw [← h.siz]; simp [World.setCell], fun p h3 h19 => (set_ne _ _ _ _ (fun e => h3 e.symm)).trans (h.oth p h3 h19), fun p => (set_fz _ _ _ _).trans (h.froz p)⟩
theorem Wr.set19 {B : Nat} {w w' : World} (h : Wr B w w') (v : Value) : Wr B w (w'.setCell ⟨B, 19, none⟩ v) :=
  ⟨h.bel.setCell (p := ⟨B, 19, none⟩) (Nat.le_refl _) _, by rw [← h.siz]; simp [World.setCell], fun p h3 h19 => (set_ne _ _ _ _ (fun e => h19 e.symm)).trans (h.oth p h3 h19), fun p => (set_fz _ _ _ _).trans (h.froz p)⟩
theorem Wr.drew {B : Nat} {w w' : World} (h : Wr B w w') : Wr B w w'.drew := ⟨h.bel.drew, h.siz, h.oth, h.froz⟩

theorem After.mk' {B : Nat} {w w2 w' : World} {zs : List Int} (hB : B < w.heap.size) (hb : Below w.heap.size w w2) (h : Wr B w2 w') (c3 : w'.cell? ⟨B, 3, none⟩ = some (.int .i32 ((srt zs)[0]?.getD 0)))
    (c19 : (zs.length ≤ 1 ∧ w'.cell? ⟨B, 19, none⟩ = some (.slice none 0 0)) ∨ (2 ≤ zs.length ∧ ∃ g cap, w'.cell? ⟨B, 19, none⟩ = some (.slice (some ⟨g, 1, none⟩) (zs.length - 1) cap) ∧ zs.length - 1 ≤ cap ∧ w.heap.size ≤ g ∧ g < w2.heap.size ∧ (∀ j, j < zs.length → w2.cell? ⟨g, j, none⟩ = some (.int .i32 ((srt zs)[j]?.getD 0))) ∧ ∀ j, w2.frozen? ⟨g, j, none⟩ = false)) : After B w w' zs := by
  refine ⟨(hb.mono (by omega)).trans h.bel, c3, ?_, fun j h3 h19 => ?_, fun j => ?_⟩
  · rcases c19 with c | ⟨h2, g, cap, c, hc, hg, hg2, hcs, hfs⟩
    · exact .inl c
    · exact .inr ⟨h2, g, cap, c, hc, hg, by rw [h.siz]; exact hg2, fun j hj => (h.oth _ (by intro e; cases e; omega) (by intro e; cases e; omega)).trans (hcs j hj), fun j => (h.froz _).trans (hfs j)⟩
  · exact (h.oth _ (by intro e; cases e; exact h3 rfl) (by intro e; cases e; exact h19 rfl)).trans (hb.cell (p := ⟨B, j, none⟩) hB)
  · exact (h.froz _).trans (hb.frozen (p := ⟨B, j, none⟩) hB)

set_option maxHeartbeats 1000000 in
set_option maxRecDepth 100000 in
theorem setc_any (B : Nat) (a : Option Addr) (len cap : Nat) (zs : List Int) (hlen : len ≤ 4096) (w : World) (hB : B < w.heap.size) (u3 u19 : Value)
    (h3 : w.cell? ⟨B, 3, none⟩ = some u3) (h19 : w.cell? ⟨B, 19, none⟩ = some u19) (hf : ∀ j, w.frozen? ⟨B, j, none⟩ = false) (hI : Rd .i32 w.heap.size w a len cap zs) :
    Calls Yba.prog 7 #[.pointer (some ⟨B, 0, none⟩), .slice a len cap] w fun e w' => e = .returned (.tuple #[]) ∧ After B w w' zs := by
  have hB1 : Below w.heap.size w (w.alloc (.cells #[.slice a len cap] 23)) := (Below.refl _ w).alloc (Nat.le_refl _) _
  have HA := hide (sorted_any w.heap.size a len cap zs hlen (w.alloc (.cells #[.slice a len cap] 23)) (by simp) (by simp [World.cell?_alloc_new]) ((hI.below hB1).mono (by simp)))
  have HI := hide hI
  clear hI
  go_enter Yba.func7, Yba.ntmps7
  go_wp2_with (go_at_call 11; refine (values_any _ _ _ _).mono ?_; rintro e w1 ⟨rfl, rfl⟩)
  refine HA.out.mono ?_
  rintro e w2 ⟨v, rfl, hO, hb2⟩
  have hb : Below w.heap.size w w2 := hB1.trans (hb2.mono (by simp))
  have c3 := (hb.cell (p := ⟨B, 3, none⟩) hB).trans h3
  have c19 := (hb.cell (p := ⟨B, 19, none⟩) hB).trans h19
  have f3 := (hb.frozen (p := ⟨B, 3, none⟩) hB).trans (hf 3)
  have f19 := (hb.frozen (p := ⟨B, 19, none⟩) hB).trans (hf 19)
  have HB := hide hb
  have HF := hide hf
  have HO := hide hO
  clear HA hB1 hb2 hb hf hO h3 h19
  rcases HO.out.alt with ⟨rfl, hz⟩ | ⟨g, cp, rfl, hne, hg, hg2, hcp, hcs, hfs⟩
  · have hl : zs.length = 0 := by rw [← srt_length, hz]; rfl
    have HL := hide hl
    have HZ := hide hz
    clear hl hz
    go_wp2_with fail
    go_end0
    refine ⟨rfl, After.mk' hB HB.out (((Wr.refl B w2).set3 _).set19 _) ?_ (.inl ⟨by have := HL.out; omega, ?_⟩)⟩
    · rw [set_ne _ _ _ _ (by simp), HZ.out]
      exact World.cell?_setCell_same' _ _ _ (by rw [c3]; rfl)
    · exact World.cell?_setCell_same' _ _ _ (by rw [set_ne _ _ _ _ (by simp), c19]; rfl)
  · have hl := srt_length zs
    rw [hl] at hcp hcs ⊢
    have hl0 : 0 < zs.length := by rw [← hl]; exact List.length_pos_iff.2 hne
    have hgw : w.heap.size ≤ g := by simp at hg; omega
    have hgB : ¬ B = g := by omega
    have hgB' : ¬ g = B := by omega
    have cg := hcs 0 hl0
    have HC := hide hcs
    have HFs := hide hfs
    obtain ⟨s0, hs0⟩ : ∃ s0, s0 = (srt zs)[0]?.getD 0 := ⟨_, rfl⟩
    rw [← hs0] at cg
    have HS0 := hide hs0
    have hszz := HI.out.sz
    have hcm : cp ≤ maxLen ∨ True := .inr trivial
    clear hne hg hcs hfs hs0 hl hcm hszz
    by_cases h1 : zs.length = 1
    · rw [h1] at hl0 hcp ⊢
      have HL := hide h1
      clear h1
      go_wp2_with fail
      go_end0
      have i3 : (w2.cell? ⟨B, 3, none⟩).isSome = true := by rw [c3]; rfl
      have i19 : (w2.cell? ⟨B, 19, none⟩).isSome = true := by rw [c19]; rfl
      refine ⟨rfl, After.mk' hB HB.out ((((Wr.refl B w2).set3 _).set19 _).set3 _) ?_ (.inl ⟨by have := HL.out; omega, ?_⟩)⟩
      · rw [← HS0.out]
        exact World.cell?_setCell_same' _ _ _ (set_some _ _ _ _ (set_some _ _ _ _ i3))
      · rw [set_ne _ _ _ _ (by simp)]
        exact World.cell?_setCell_same' _ _ _ (set_some _ _ _ _ i19)
    · have h2 : 1 < zs.length := by omega
      go_wp2_with fail
      go_end0
      have i3 : (w2.cell? ⟨B, 3, none⟩).isSome = true := by rw [c3]; rfl
      have i19 : (w2.cell? ⟨B, 19, none⟩).isSome = true := by rw [c19]; rfl
      refine ⟨rfl, After.mk' hB HB.out (((((Wr.refl B w2).set3 _).set19 _).set3 _).set19 _) ?_ (.inr ⟨h2, g, cp - 1, ?_, by omega, hgw, hg2, HC.out, HFs.out⟩)⟩
      · rw [set_ne _ _ _ _ (by simp), ← HS0.out]
        exact World.cell?_setCell_same' _ _ _ (set_some _ _ _ _ (set_some _ _ _ _ i3))
      · exact World.cell?_setCell_same' _ _ _ (set_some _ _ _ _ (set_some _ _ _ _ (set_some _ _ _ _ i19)))
end Go.Proofs.Ybulkdtay
