import Derived.Test.YbulkdsziParts
namespace Go.Proofs.Ybulkdszi
open Go.RowKit Go.Shelf Go.MuLone

/-- What the last part is told: the clock's settlers are ps, behind them the new one; 'before' owns ps. -/
structure At6 (B0 : Nat) (w0 wr : World) (C cb sb sn base bb : Nat) (ps : List Nat) (v vb : Value) : Prop where
  c : wr.heap[C]? = some (.cells (clk 0 v) 51 (0, 0))
  kcb : wr.heap[cb]? = some (.cells #[.pointer (some ⟨C, 0, none⟩)] 31 (0, 0))
  ksb : wr.heap[sb]? = some (.cells #[.pointer (some ⟨sn, 0, none⟩)] 52 (0, 0))
  own : wr.ownsRow base 52 1 v (ps ++ [sn]).length ((ps ++ [sn]).map sptr)
  bown : wr.ownsRow bb 52 1 vb ps.length (ps.map sptr)
  nv : ∀ g, v.ownBlock = some g → g ≠ C ∧ g ≠ cb ∧ g ≠ sb ∧ g ≠ sn ∧ g ∉ ps
  nb : ∀ g, vb.ownBlock = some g → g ≠ C ∧ v.ownBlock ≠ some g
  st : ∀ p, p = sn ∨ p ∈ ps → ∃ c, wr.heap[p]? = some (.cells c 54 (0, 0))
  fresh : sn ∉ ps
  lo : B0 ≤ C ∧ ∀ g, v.ownBlock = some g → B0 ≤ g
  hi : B0 ≤ w0.heap.size
  bel : Below B0 w0 wr
  small : ps.length ≤ 65536

/-- Behind one call of the remove function. -/
structure Beh6 (B0 : Nat) (w0 w1 : World) (C cb sb sn base bb : Nat) (ps : List Nat) (v v1 vb : Value) : Prop where
  c : w1.heap[C]? = some (.cells (clk 0 v1) 51 (0, 0))
  kcb : w1.heap[cb]? = some (.cells #[.pointer (some ⟨C, 0, none⟩)] 31 (0, 0))
  ksb : w1.heap[sb]? = some (.cells #[.pointer (some ⟨sn, 0, none⟩)] 52 (0, 0))
  own : w1.ownsRow base 52 1 v1 ps.length (ps.map sptr)
  bown : w1.ownsRow bb 52 1 vb ps.length (ps.map sptr)
  blk : v1.ownBlock = v.ownBlock
  nv : ∀ g, v.ownBlock = some g → g ≠ C ∧ g ≠ cb ∧ g ≠ sb ∧ g ≠ sn ∧ g ∉ ps
  nb : ∀ g, vb.ownBlock = some g → g ≠ C ∧ v.ownBlock ≠ some g
  st : ∀ p, p = sn ∨ p ∈ ps → ∃ c, w1.heap[p]? = some (.cells c 54 (0, 0))
  fresh : sn ∉ ps
  lo : B0 ≤ C ∧ ∀ g, v.ownBlock = some g → B0 ≤ g
  hi : B0 ≤ w0.heap.size
  bel : Below B0 w0 w1
  small : ps.length ≤ 65536

theorem keep_st {D : Nat → Prop} {w w' : World} {p : Nat} (k : Keeps D w w') (h : ∃ c, w.heap[p]? = some (.cells c 54 (0, 0))) (hd : ¬ D p) : ∃ c, w'.heap[p]? = some (.cells c 54 (0, 0)) := by
  obtain ⟨c, hc⟩ := h
  exact ⟨c, k.at hc hd⟩
theorem below_keep {D : Nat → Prop} {B0 : Nat} {w0 w w' : World} (b : Below B0 w0 w) (h0 : B0 ≤ w0.heap.size) (k : Keeps D w w') (hd : ∀ g, D g → B0 ≤ g) : Below B0 w0 w' :=
  b.trans (k.below (Nat.le_trans h0 b.size) (fun i hi x => by have := hd i x; omega))
theorem ne_type {w : World} {p C : Nat} {v : Value} {m : Int} (hC : w.heap[C]? = some (.cells (clk m v) 51 (0, 0))) (hp : ∃ c, w.heap[p]? = some (.cells c 54 (0, 0))) : p ≠ C := by
  obtain ⟨c, hc⟩ := hp
  intro e
  subst e
  rw [hC] at hc
  simp at hc

theorem beh6 {B0 : Nat} {w0 wr w1 : World} {C cb sb sn base bb : Nat} {ps : List Nat} {v v1 vb : Value} (h : At6 B0 w0 wr C cb sb sn base bb ps v vb) (r : Removed C v (rem (ps ++ [sn]) sn) base 0 v1 wr w1) : Beh6 B0 w0 w1 C cb sb sn base bb ps v v1 vb := by
  rw [rem_last h.fresh] at r
  have ncb : cb ≠ C := fun e => by have := h.kcb; rw [e, h.c] at this; simp at this
  have nsb : sb ≠ C := fun e => by have := h.ksb; rw [e, h.c] at this; simp at this
  have far : ∀ b, b ≠ C → v.ownBlock ≠ some b → ¬ (b = C ∨ v.ownBlock = some b) := fun b h1 h2 e => e.elim h1 h2
  refine ⟨r.c, r.keep.at h.kcb (far _ ncb (fun e => (h.nv _ e).2.1 rfl)), r.keep.at h.ksb (far _ nsb (fun e => (h.nv _ e).2.2.1 rfl)), r.own, owns_keep h.bown r.keep (fun g hg => far g (h.nb g hg).1 (h.nb g hg).2), r.blk, h.nv, h.nb, ?_, h.fresh, h.lo, h.hi, ?_, h.small⟩
  · intro p hp
    refine keep_st r.keep (h.st p hp) (far p (ne_type h.c (h.st p hp)) (fun e => ?_))
    rcases hp with rfl | hp
    · exact (h.nv _ e).2.2.2.1 rfl
    · exact (h.nv _ e).2.2.2.2 hp
  · exact below_keep h.bel h.hi r.keep (fun g hg => by rcases hg with rfl | hg; exact h.lo.1; exact h.lo.2 g hg)

theorem beh6' {B0 : Nat} {w0 wr w1 : World} {C cb sb sn base bb : Nat} {ps : List Nat} {v v0 v1 vb : Value} (h : Beh6 B0 w0 wr C cb sb sn base bb ps v v0 vb) (r : Removed C v0 (rem ps sn) base 0 v1 wr w1) : Beh6 B0 w0 w1 C cb sb sn base bb ps v v1 vb := by
  rw [rem_gone h.fresh] at r
  have ncb : cb ≠ C := fun e => by have := h.kcb; rw [e, h.c] at this; simp at this
  have nsb : sb ≠ C := fun e => by have := h.ksb; rw [e, h.c] at this; simp at this
  have eb := h.blk
  have far : ∀ b, b ≠ C → v.ownBlock ≠ some b → ¬ (b = C ∨ v0.ownBlock = some b) := fun b h1 h2 e => e.elim h1 (by rw [eb]; exact h2)
  refine ⟨r.c, r.keep.at h.kcb (far _ ncb (fun e => (h.nv _ e).2.1 rfl)), r.keep.at h.ksb (far _ nsb (fun e => (h.nv _ e).2.2.1 rfl)), r.own, owns_keep h.bown r.keep (fun g hg => far g (h.nb g hg).1 (h.nb g hg).2), r.blk.trans eb, h.nv, h.nb, ?_, h.fresh, h.lo, h.hi, ?_, h.small⟩
  · intro p hp
    refine keep_st r.keep (h.st p hp) (far p (ne_type h.c (h.st p hp)) (fun e => ?_))
    rcases hp with rfl | hp
    · exact (h.nv _ e).2.2.2.1 rfl
    · exact (h.nv _ e).2.2.2.2 hp
  · exact below_keep h.bel h.hi r.keep (fun g hg => by rcases hg with rfl | hg; exact h.lo.1; rw [eb] at hg; exact h.lo.2 g hg)
theorem beh6_drewN {B0 : Nat} {w0 wr : World} {C cb sb sn base bb : Nat} {ps : List Nat} {v v0 vb : Value} (h : Beh6 B0 w0 wr C cb sb sn base bb ps v v0 vb) (q : Nat) : Beh6 B0 w0 (wr.drewN q) C cb sb sn base bb ps v v0 vb :=
  ⟨h.c, h.kcb, h.ksb, h.own, h.bown, h.blk, h.nv, h.nb, h.st, h.fresh, h.lo, h.hi, below_drewN h.bel q, h.small⟩

set_option maxHeartbeats 4000000 in
set_option maxRecDepth 100000 in
theorem part6 (Q0 : Exit → Act → World → Prop) (B0 : Nat) (w0 wr : World) (C cb sb sn base bb : Nat) (ps : List Nat) (v vb : Value) (H : Hid (At6 B0 w0 wr C cb sb sn base bb ps v vb)) (u0 u1 u2 u3 u4 u5 u6 u8 u9 u10 u11 u12 u13 u14 u15 u16 u17 u18 u20 u21 u23 u24 u25 u26 u27 u28 u29 u30 u31 u32 u33 u34 u35 u36 u37 u38 u39 u40 u41 u42 u43 u44 u45 u46 u47 u48 u49 u50 u51 u52 u53 u54 u55 u56 u57 u58 u59 u60 u61 u62 u63 u64 u65 u66 u67 u68 u69 u70 u71 u72 u73 u74 u75 u76 u77 u78 u79 u80 u81 u82 u83 u84 u85 u86 u87 u88 u89 u90 u91 u92 u93 u94 u95 u96 u97 u98 u99 u100 u101 u102 u103 u104 u105 u106 u107 u108 u109 u110 u111 u112 u113 u114 u115 u116 u117 u118 u119 u120 u121 u122 u123 u124 u125 u126 u127 u128 u129 u130 u131 u132 u133 u134 u135 u136 u137 u138 u139 u140 u141 u142 u143 u144 u145 u146 u147 u148 u149 u150 u151 u152 u153 u154 u155 u156 u157 u158 u159 u160 u161 u162 u163 u164 u165 u166 u167 u168 u169 u170 u171 u172 u173 u174 u175 u176 u177 u178 u179 u180 u181 u182 u183 u184 u185 u186 u187 u188 u189 u190 u191 u192 u193 u194 u195 u196 u197 u198 u199 u200 u201 u202 u203 u204 u205 u206 u207 u208 u209 u210 u211 u212 u213 u214 u215 : Value)
    (hQ : Hid (∀ (a : Act) (w' : World), a.tmps.getD 6 undef = .bool true → a.defers = [] → Below B0 w0 w' → Q0 .ret a w')) :
    Code.wp Yba.prog ((Yba.f4.body.bind (fromRegion 60)).getD .skip) Q0 ⟨#[u0, u1, u2, u3, u4, u5, u6, .pointer (some ⟨C, 0, none⟩), u8, u9, u10, u11, u12, u13, u14, u15, u16, u17, u18, vb, u20, u21, .func (.func 18) #[] #[.pointer (some ⟨cb, 0, none⟩), .pointer (some ⟨sb, 0, none⟩)], u23, u24, u25, u26, u27, u28, u29, u30, u31, u32, u33, u34, u35, u36, u37, u38, u39, u40, u41, u42, u43, u44, u45, u46, u47, u48, u49, u50, u51, u52, u53, u54, u55, u56, u57, u58, u59, u60, u61, u62, u63, u64, u65, u66, u67, u68, u69, u70, u71, u72, u73, u74, u75, u76, u77, u78, u79, u80, u81, u82, u83, u84, u85, u86, u87, u88, u89, u90, u91, u92, u93, u94, u95, u96, u97, u98, u99, u100, u101, u102, u103, u104, u105, u106, u107, u108, u109, u110, u111, u112, u113, u114, u115, u116, u117, u118, u119, u120, u121, u122, u123, u124, u125, u126, u127, u128, u129, u130, u131, u132, u133, u134, u135, u136, u137, u138, u139, u140, u141, u142, u143, u144, u145, u146, u147, u148, u149, u150, u151, u152, u153, u154, u155, u156, u157, u158, u159, u160, u161, u162, u163, u164, u165, u166, u167, u168, u169, u170, u171, u172, u173, u174, u175, u176, u177, u178, u179, u180, u181, u182, u183, u184, u185, u186, u187, u188, u189, u190, u191, u192, u193, u194, u195, u196, u197, u198, u199, u200, u201, u202, u203, u204, u205, u206, u207, u208, u209, u210, u211, u212, u213, u214, u215], []⟩ wr := by
  conv => arg 2; whnf
  go_wp2_with fail
  refine (remove_any C cb sb sn base v (ps ++ [sn]) wr H.out.c H.out.kcb H.out.ksb H.out.own (fun e => (H.out.nv _ e).1 rfl) (fun e => (H.out.nv _ e).2.1 rfl) (fun e => (H.out.nv _ e).2.2.1 rfl) (H.out.st sn (.inl rfl)) (fun p hp => H.out.st p (by rcases List.mem_append.1 hp with h | h; exact .inr h; exact .inl (by simpa using h))) (fun p hp e => ?_) (by have := H.out.small; simp; omega)).mono ?_
  · have hn := (H.out.nv p e).2.2.2
    rcases hp with rfl | hp
    · exact hn.1 rfl
    · rcases List.mem_append.1 hp with h | h
      · exact hn.2 h
      · exact hn.1 (by simpa using h)
  rintro e w1 ⟨rfl, v1, hr⟩
  have H1 := hide (beh6 H.out hr)
  clear hr H
  have c8 : w1.cell? ⟨C, 8, none⟩ = some v1 := by rw [cell_at H1.out.c]; rfl
  go_wp2_with fail
  refine (same_own base bb v1 vb ps w1 H1.out.own H1.out.bown (by have := H1.out.small; omega)).mono ?_
  rintro e w2 ⟨rfl, q, rfl⟩
  have H2 := hide (beh6_drewN H1.out q)
  clear H1 c8
  generalize w1.drewN q = w2 at H2 ⊢
  go_wp2_with fail
  refine (remove_any C cb sb sn base v1 ps w2 H2.out.c H2.out.kcb H2.out.ksb H2.out.own (fun e => (H2.out.nv _ (H2.out.blk ▸ e)).1 rfl) (fun e => (H2.out.nv _ (H2.out.blk ▸ e)).2.1 rfl) (fun e => (H2.out.nv _ (H2.out.blk ▸ e)).2.2.1 rfl) (H2.out.st sn (.inl rfl)) (fun p hp => H2.out.st p (.inr hp)) (fun p hp e => ?_) (by have := H2.out.small; omega)).mono ?_
  · have hn := (H2.out.nv p (H2.out.blk ▸ e)).2.2.2
    rcases hp with rfl | hp
    · exact hn.1 rfl
    · exact hn.2 hp
  rintro e w3 ⟨rfl, v3, hr⟩
  have H3 := hide (beh6' H2.out hr)
  clear hr H2
  have c8 : w3.cell? ⟨C, 8, none⟩ = some v3 := by rw [cell_at H3.out.c]; rfl
  go_wp2_with fail
  refine (same_own base bb v3 vb ps w3 H3.out.own H3.out.bown (by have := H3.out.small; omega)).mono ?_
  rintro e w4 ⟨rfl, q3, rfl⟩
  have H4 := hide (beh6_drewN H3.out q3)
  clear H3 c8
  generalize w3.drewN q3 = w4 at H4 ⊢
  have c4 : w4.cell? ⟨C, 4, none⟩ = some (.int .u64 0) := by rw [cell_at H4.out.c]; rfl
  have c5 : w4.cell? ⟨C, 5, none⟩ = some (.int .i64 0) := by rw [cell_at H4.out.c]; rfl
  have c6 : w4.cell? ⟨C, 6, none⟩ = some (.pointer none) := by rw [cell_at H4.out.c]; rfl
  have c7 : w4.cell? ⟨C, 7, none⟩ = some (.slice none 0 0) := by rw [cell_at H4.out.c]; rfl
  have hnil : ∀ wx : World, (Op.equalIn 9999 34 (.pointer none) (.pointer none)).run Yba.prog wx = .ok true wx := fun _ => by kernel_rfl
  go_wp2
  exact hQ.out _ _ rfl rfl H4.out.bel
end Go.Proofs.Ybulkdszi
