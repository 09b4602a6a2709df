import Derived.Test.YbulkdsziPart6
namespace Go.Proofs.Ybulkdszi
open Go.RowKit Go.Shelf Go.MuLone

/-- What the fifth part is told: the clock's settlers are ps; 'before' owns ps. -/
structure At5 (B0 : Nat) (w0 wr : World) (T C L base bb : Nat) (tag : Int) (ps : List Nat) (v vb lv : Value) : Prop where
  c : wr.heap[C]? = some (.cells (clk 0 v) 51 (0, 0))
  l : wr.heap[L]? = some (.cells #[lv] 37 (0, 0))
  t : wr.heap[T]? = some (.cells #[.int .i64 tag] 3 (0, 0))
  own : wr.ownsRow base 52 1 v ps.length (ps.map sptr)
  bown : wr.ownsRow bb 52 1 vb ps.length (ps.map sptr)
  nv : ∀ g, v.ownBlock = some g → g ≠ C ∧ g ≠ L ∧ g ≠ T ∧ g ∉ ps
  nb : ∀ g, vb.ownBlock = some g → g ≠ C ∧ g ≠ L ∧ v.ownBlock ≠ some g
  st : ∀ p, p ∈ ps → ∃ c, wr.heap[p]? = some (.cells c 54 (0, 0))
  lo : B0 ≤ C ∧ B0 ≤ L ∧ ∀ g, v.ownBlock = some g → B0 ≤ g
  bs : base ≤ wr.heap.size
  hi : B0 ≤ w0.heap.size
  bel : Below B0 w0 wr
  small : ps.length ≤ 65536

/-- Behind the new settler: its blocks are cb, sn, sb. -/
structure Beh5 (B0 : Nat) (w0 w1 : World) (T C L cb sb sn g cap base bb : Nat) (tag : Int) (ps : List Nat) (vb lv : Value) : Prop where
  c : w1.heap[C]? = some (.cells (clk 0 (.slice (some ⟨g, 0, none⟩) (ps.length + 1) cap)) 51 (0, 0))
  l : w1.heap[L]? = some (.cells #[lv] 37 (0, 0))
  t : w1.heap[T]? = some (.cells #[.int .i64 tag] 3 (0, 0))
  kcb : w1.heap[cb]? = some (.cells #[.pointer (some ⟨C, 0, none⟩)] 31 (0, 0))
  kst : w1.heap[sn]? = some (.cells #[.func (.func 10) #[] #[.pointer (some ⟨L, 0, none⟩), .pointer (some ⟨T, 0, none⟩)]] 54 (0, 0))
  ksb : w1.heap[sb]? = some (.cells #[.pointer (some ⟨sn, 0, none⟩)] 52 (0, 0))
  own : w1.ownsRow base 52 1 (.slice (some ⟨g, 0, none⟩) (ps.length + 1) cap) (ps.length + 1) (ps.map sptr ++ [sptr sn])
  bown : w1.ownsRow bb 52 1 vb ps.length (ps.map sptr)
  nv : g ≠ C ∧ g ≠ cb ∧ g ≠ sb ∧ g ≠ sn ∧ g ∉ ps ∧ g ≠ L
  nb : ∀ k, vb.ownBlock = some k → k ≠ C ∧ k ≠ L ∧ k ≠ g
  st : ∀ p, p = sn ∨ p ∈ ps → ∃ c, w1.heap[p]? = some (.cells c 54 (0, 0))
  fresh : sn ∉ ps
  lo : B0 ≤ C ∧ B0 ≤ L ∧ B0 ≤ g
  hi : B0 ≤ w0.heap.size
  bel : Below B0 w0 w1
  small : ps.length ≤ 65536

theorem beh5_drewN {B0 : Nat} {w0 w1 : World} {T C L cb sb sn g cap base bb : Nat} {tag : Int} {ps : List Nat} {vb lv : Value} (h : Beh5 B0 w0 w1 T C L cb sb sn g cap base bb tag ps vb lv) (q : Nat) : Beh5 B0 w0 (w1.drewN q) T C L cb sb sn g cap base bb tag ps vb lv :=
  ⟨h.c, h.l, h.t, h.kcb, h.kst, h.ksb, h.own, h.bown, h.nv, h.nb, h.st, h.fresh, h.lo, h.hi, below_drewN h.bel q, h.small⟩

theorem beh5 {B0 : Nat} {w0 wr w1 : World} {T C L base bb g cap2 : Nat} {tag : Int} {ps : List Nat} {v vb lv : Value} (h : At5 B0 w0 wr T C L base bb tag ps v vb lv)
    (m : Moved 0 C (.func (.func 10) #[] #[.pointer (some ⟨L, 0, none⟩), .pointer (some ⟨T, 0, none⟩)]) v ps.length (ps.map sptr) base wr g cap2 w1) :
    Beh5 B0 w0 w1 T C L wr.heap.size (wr.heap.size + 1 + 1) (wr.heap.size + 1) g cap2 base bb tag ps vb lv := by
  have hC := block_lt h.c
  have hL := block_lt h.l
  have hT := block_lt h.t
  have nLC : L ≠ C := fun e => by have := h.l; rw [e, h.c] at this; simp at this
  have nTC : T ≠ C := fun e => by have := h.t; rw [e, h.c] at this; simp at this
  have hps : ∀ p ∈ ps, p < wr.heap.size ∧ p ≠ C := fun p hp => by
    have hst := h.st p hp
    refine ⟨?_, ne_type h.c hst⟩
    obtain ⟨c, hc⟩ := hst
    exact block_lt hc
  have far : ∀ b, b ≠ C → v.ownBlock ≠ some b → ¬ (b = C ∨ v.ownBlock = some b) := fun b h1 h2 e => e.elim h1 h2
  have hfresh : wr.heap.size + 1 ∉ ps := fun e => by have := (hps _ e).1; omega
  refine ⟨m.c, m.keep.at h.l (far _ nLC (fun e => (h.nv _ e).2.1 rfl)), m.keep.at h.t (far _ nTC (fun e => (h.nv _ e).2.2.1 rfl)), m.cb, m.st, m.sb, m.own, owns_keep h.bown m.keep (fun k hk => far k (h.nb k hk).1 (h.nb k hk).2.2), ?_, ?_, ?_, hfresh, ⟨h.lo.1, h.lo.2.1, ?_⟩, h.hi, ?_, h.small⟩
  · rcases m.lies with e | e
    · have hv := h.nv g e
      have hl := (owns_lt h.own e).2
      exact ⟨m.gC, by omega, by omega, by omega, hv.2.2.2, hv.2.1⟩
    · refine ⟨m.gC, by omega, by omega, by omega, fun x => ?_, by omega⟩
      have := (hps _ x).1
      omega
  · intro k hk
    have hb := h.nb k hk
    have hl := (owns_lt h.bown hk).2
    refine ⟨hb.1, hb.2.1, fun e => ?_⟩
    rcases m.lies with x | x
    · exact hb.2.2 (by rw [e]; exact x)
    · omega
  · rintro p (rfl | hp)
    · exact ⟨_, m.st⟩
    · exact keep_st m.keep (h.st p hp) (far p (hps p hp).2 (fun e => (h.nv _ e).2.2.2 hp))
  · rcases m.lies with e | e
    · exact h.lo.2.2 g e
    · have := h.bel.size
      have := h.hi
      omega
  · exact below_keep h.bel h.hi m.keep (fun k hk => by rcases hk with rfl | hk; exact h.lo.1; exact h.lo.2.2 k hk)

/-- .. behind what turns the log alone. -/
theorem beh5_log {B0 : Nat} {w0 w1 w2 : World} {T C L cb sb sn g cap base bb : Nat} {tag : Int} {ps : List Nat} {vb lv lv' : Value} (h : Beh5 B0 w0 w1 T C L cb sb sn g cap base bb tag ps vb lv) (k : Keeps (· = L) w1 w2) (hl : w2.heap[L]? = some (.cells #[lv'] 37 (0, 0))) : Beh5 B0 w0 w2 T C L cb sb sn g cap base bb tag ps vb lv' := by
  have d : ∀ {b : Nat} {cs : Array Value} {t : TypeId}, w1.heap[b]? = some (.cells cs t (0, 0)) → t ≠ 37 → b ≠ L := fun hb ht e => by
    rw [e, h.l] at hb
    simp at hb
    exact ht hb.2.symm
  refine ⟨k.at h.c (d h.c (by decide)), hl, k.at h.t (d h.t (by decide)), k.at h.kcb (d h.kcb (by decide)), k.at h.kst (d h.kst (by decide)), k.at h.ksb (d h.ksb (by decide)), owns_keep h.own k (fun x hx e => ?_), owns_keep h.bown k (fun x hx e => (h.nb x hx).2.1 e), h.nv, h.nb, fun p hp => ?_, h.fresh, h.lo, h.hi, below_keep h.bel h.hi k (fun b hb => by rw [hb]; exact h.lo.2.1), h.small⟩
  · simp [Value.ownBlock] at hx
    exact h.nv.2.2.2.2.2 (hx.trans e)
  · obtain ⟨c, hc⟩ := h.st p hp
    exact ⟨c, k.at hc (d hc (by decide))⟩

theorem at6 {B0 : Nat} {w0 w1 : World} {T C L cb sb sn g cap base bb : Nat} {tag : Int} {ps : List Nat} {vb lv : Value} (h : Beh5 B0 w0 w1 T C L cb sb sn g cap base bb tag ps vb lv) : At6 B0 w0 w1 C cb sb sn base bb ps (.slice (some ⟨g, 0, none⟩) (ps.length + 1) cap) vb := by
  refine ⟨h.c, h.kcb, h.ksb, ?_, h.bown, fun x hx => ?_, fun x hx => ?_, h.st, h.fresh, ⟨h.lo.1, fun x hx => ?_⟩, h.hi, h.bel, h.small⟩
  · have e1 : (ps ++ [sn]).length = ps.length + 1 := by simp
    have e2 : (ps ++ [sn]).map sptr = ps.map sptr ++ [sptr sn] := by simp
    rw [e1, e2]
    exact h.own
  · simp [Value.ownBlock] at hx
    subst hx
    exact ⟨h.nv.1, h.nv.2.1, h.nv.2.2.1, h.nv.2.2.2.1, h.nv.2.2.2.2.1⟩
  · refine ⟨(h.nb x hx).1, fun e => ?_⟩
    simp [Value.ownBlock] at e
    exact (h.nb x hx).2.2 e.symm
  · simp [Value.ownBlock] at hx
    subst hx
    exact h.lo.2.2

/-- The slice cut by its last element. -/
theorem own_cut {w : World} {base g n cap : Nat} {xs : List Value} {x : Value} (h : w.ownsRow base 52 1 (.slice (some ⟨g, 0, none⟩) (n + 1) cap) (n + 1) (xs ++ [x])) : w.ownsRow base 52 1 (.slice (some ⟨g, 0, none⟩) n cap) n xs := by
  have hl : xs.length = n := by have := h.1; simp at this; omega
  rcases h.2 with ⟨h', _⟩ | ⟨g', cap', cur, h', hb, hg, hnc, hcm, hcs, ht⟩
  · cases h'
  · cases h'
    refine ⟨by simp [hl], .inr ⟨g, cap, cur, rfl, hb, hg, by omega, hcm, hcs, ?_⟩⟩
    have e : cur.toList.take (n * 1) = (cur.toList.take ((n + 1) * 1)).take n := by rw [List.take_take]; congr 1; omega
    rw [e, ht, ← hl]
    exact List.take_left
theorem cap_of {w : World} {base g n cap : Nat} {xs : List Value} (h : w.ownsRow base 52 1 (.slice (some ⟨g, 0, none⟩) n cap) n xs) : n ≤ cap ∧ cap ≤ 9223372036854775807 := by
  rcases h.2 with ⟨h', _⟩ | ⟨g', cap', cur, h', hb, hg, hnc, hcm, hcs, ht⟩
  · cases h'
  · cases h'
    unfold maxLen at hcm
    exact ⟨hnc, hcm⟩

set_option maxHeartbeats 4000000 in
set_option maxRecDepth 100000 in
theorem part5 (Q0 : Exit → Act → World → Prop) (B0 : Nat) (w0 wr : World) (T C L base bb : Nat) (tag : Int) (ps : List Nat) (v vb lv : Value) (H : Hid (At5 B0 w0 wr T C L base bb tag ps v vb lv)) (u0 u1 u2 u3 u4 u6 u9 u10 u11 u12 u13 u14 u15 u16 u17 u18 u20 u21 u22 u23 u24 u25 u26 u27 u28 u29 u30 u31 u32 u33 u34 u35 u36 u37 u38 u39 u40 u41 u42 u43 u44 u45 u46 u47 u48 u49 u50 u51 u52 u53 u54 u55 u56 u57 u58 u59 u60 u61 u62 u63 u64 u65 u66 u67 u68 u69 u70 u71 u72 u73 u74 u75 u76 u77 u78 u79 u80 u81 u82 u83 u84 u85 u86 u87 u88 u89 u90 u91 u92 u93 u94 u95 u96 u97 u98 u99 u100 u101 u102 u103 u104 u105 u106 u107 u108 u109 u110 u111 u112 u113 u114 u115 u116 u117 u118 u119 u120 u121 u122 u123 u124 u125 u126 u127 u128 u129 u130 u131 u132 u133 u134 u135 u136 u137 u138 u139 u140 u141 u142 u143 u144 u145 u146 u147 u148 u149 u150 u151 u152 u153 u154 u155 u156 u157 u158 u159 u160 u161 u162 u163 u164 u165 u166 u167 u168 u169 u170 u171 u172 u173 u174 u175 u176 u177 u178 u179 u180 u181 u182 u183 u184 u185 u186 u187 u188 u189 u190 u191 u192 u193 u194 u195 u196 u197 u198 u199 u200 u201 u202 u203 u204 u205 u206 u207 u208 u209 u210 u211 u212 u213 u214 u215 : Value)
    (hQ : Hid (∀ (a : Act) (w' : World), a.tmps.getD 6 undef = .bool true → a.defers = [] → Below B0 w0 w' → Q0 .ret a w')) :
    Code.wp Yba.prog ((Yba.f4.body.bind (fromRegion 38)).getD .skip) Q0 ⟨#[u0, u1, u2, u3, u4, .pointer (some ⟨T, 0, none⟩), u6, .pointer (some ⟨C, 0, none⟩), .pointer (some ⟨L, 0, none⟩), u9, u10, u11, u12, u13, u14, u15, u16, u17, u18, vb, u20, u21, u22, u23, u24, u25, u26, u27, u28, u29, u30, u31, u32, u33, u34, u35, u36, u37, u38, u39, u40, u41, u42, u43, u44, u45, u46, u47, u48, u49, u50, u51, u52, u53, u54, u55, u56, u57, u58, u59, u60, u61, u62, u63, u64, u65, u66, u67, u68, u69, u70, u71, u72, u73, u74, u75, u76, u77, u78, u79, u80, u81, u82, u83, u84, u85, u86, u87, u88, u89, u90, u91, u92, u93, u94, u95, u96, u97, u98, u99, u100, u101, u102, u103, u104, u105, u106, u107, u108, u109, u110, u111, u112, u113, u114, u115, u116, u117, u118, u119, u120, u121, u122, u123, u124, u125, u126, u127, u128, u129, u130, u131, u132, u133, u134, u135, u136, u137, u138, u139, u140, u141, u142, u143, u144, u145, u146, u147, u148, u149, u150, u151, u152, u153, u154, u155, u156, u157, u158, u159, u160, u161, u162, u163, u164, u165, u166, u167, u168, u169, u170, u171, u172, u173, u174, u175, u176, u177, u178, u179, u180, u181, u182, u183, u184, u185, u186, u187, u188, u189, u190, u191, u192, u193, u194, u195, u196, u197, u198, u199, u200, u201, u202, u203, u204, u205, u206, u207, u208, u209, u210, u211, u212, u213, u214, u215], []⟩ wr := by
  conv => arg 2; whnf
  go_wp2_with fail
  refine (onMove_any C (.func 10) #[.pointer (some ⟨L, 0, none⟩), .pointer (some ⟨T, 0, none⟩)] v ps.length (ps.map sptr) base wr H.out.c H.out.own (fun e => (H.out.nv _ e).1 rfl) H.out.bs (by have := H.out.small; omega)).mono ?_
  rintro e w1 ⟨rfl, g, cap2, hm⟩
  have H1 := hide (beh5 H.out hm)
  clear hm
  have hsm := H.out.small
  obtain ⟨va, vc, hva⟩ : ∃ va vc, vb = .slice va ps.length vc := by
    rcases H.out.bown.2 with ⟨h', h0⟩ | ⟨g', cap', cur, h', _⟩
    · exact ⟨none, 0, by rw [h', h0]⟩
    · exact ⟨_, _, h'⟩
  subst hva
  clear H
  generalize wr.heap.size = cb at H1 ⊢
  have c8 : w1.cell? ⟨C, 8, none⟩ = some (.slice (some ⟨g, 0, none⟩) (ps.length + 1) cap2) := by rw [cell_at H1.out.c]; rfl
  have hcap := cap_of H1.out.own
  have hcap1 := hcap.1
  have hcap2 := hcap.2
  have hfn : ∀ (fn : Fn) (f c : Array Value) (wx : World), (binOp .eql 1 (.func fn f c) .nilFunc).run Yba.prog wx = .ok (.bool false) wx := fun _ _ _ _ => rfl
  go_wp2_with fail
  refine (same_own base bb _ _ ps w1 (own_cut H1.out.own) H1.out.bown (by omega)).mono ?_
  rintro e w2 ⟨rfl, q, rfl⟩
  have H2 := hide (beh5_drewN H1.out q)
  clear H1 c8
  generalize w1.drewN q = w2 at H2 ⊢
  have c8 : w2.cell? ⟨C, 8, none⟩ = some (.slice (some ⟨g, 0, none⟩) (ps.length + 1) cap2) := by rw [cell_at H2.out.c]; rfl
  have cl : w2.cell? ⟨g, ps.length, none⟩ = some (.pointer (some ⟨cb + 1, 0, none⟩)) := by
    rw [H2.out.own.cellAt ps.length (by omega)]
    simp [sptr]
  go_wp2_with fail
  clear c8 cl hfn
  go_loop [147] (fun i => ∃ k : Nat, k ≤ ps.length ∧ i = .int .i64 k) (fun i => ps.length - (intOf i).toNat)
  case atStart => exact ⟨0, Nat.zero_le _, rfl⟩
  case round =>
    obtain ⟨k, hk, rfl⟩ := hrel
    by_cases hlt : k < ps.length
    · obtain ⟨ga, rfl⟩ : ∃ ga, va = some ⟨ga, 0, none⟩ := by
        obtain ⟨ga, capa, e, _⟩ := H2.out.bown.form (by omega)
        injection e with e1
        exact ⟨ga, e1⟩
      obtain ⟨p, hpe⟩ : ∃ p, p = ps.getD k 0 := ⟨_, rfl⟩
      have hpm : p ∈ ps := by rw [hpe]; simp [List.getD, List.getElem?_eq_getElem hlt]
      have ck : w2.cell? ⟨ga, k, none⟩ = some (.pointer (some ⟨p, 0, none⟩)) := by
        have := own_cell H2.out.bown rfl k hlt
        rw [Nat.zero_add] at this
        rw [this, hpe]
        rfl
      have hpn : p ≠ cb + 1 := fun e => H2.out.fresh (e ▸ hpm)
      have heq := run_eq p (cb + 1) w2 (H2.out.st p (.inr hpm)) (H2.out.st (cb + 1) (.inl rfl))
      have hbq : (p == cb + 1) = false := by simp [hpn]
      rw [hbq] at heq
      clear hpe hpm hpn hbq
      go_wp2
      go_round
      case rel => exact ⟨k + 1, by omega, by go_num⟩
      case measure => simp [intOf]; omega
    · have cL : w2.cell? ⟨L, 0, none⟩ = some lv := by rw [cell_at H2.out.l]; rfl
      have fL : w2.frozen? ⟨L, 0, none⟩ = false := frozen_at H2.out.l 0
      have cS : ∀ x, (w2.setCell ⟨L, 0, none⟩ x).cell? ⟨cb + 1, 0, none⟩ = some (.func (.func 10) #[] #[.pointer (some ⟨L, 0, none⟩), .pointer (some ⟨T, 0, none⟩)]) := fun x => by
        have n1 : cb + 1 ≠ L := fun e => by have := H2.out.kst; rw [e, H2.out.l] at this; simp at this
        rw [cell_at (w := w2.setCell ⟨L, 0, none⟩ x) ((Below.heap_setCell _ _ _ _ n1).trans H2.out.kst)]
        rfl
      go_wp2_with fail
      have kL : Keeps (· = L) w2 (w2.setCell ⟨L, 0, none⟩ (.slice none 0 0)) := (Keeps.refl (· = L) w2).setCell (p := ⟨L, 0, none⟩) (fun _ => rfl) _
      have hL3 : (w2.setCell ⟨L, 0, none⟩ (.slice none 0 0)).heap[L]? = some (.cells #[.slice none 0 0] 37 (0, 0)) := by
        rw [heap_setCell_same _ L 0 _ 37 _ H2.out.l]
        rfl
      have H3 := hide (beh5_log H2.out kL hL3)
      clear kL hL3 cL fL cS H2
      generalize w2.setCell ⟨L, 0, none⟩ (.slice none 0 0) = w3 at H3 ⊢
      refine (log10_any L T tag (.slice none 0 0) [] w3.heap.size w3 H3.out.l H3.out.t (World.ownsRow_nil _ _ _ _) (by simp [Value.ownBlock]) (Nat.le_refl _) (by simp)).mono ?_
      rintro e w4 ⟨rfl, lv4, hlg⟩
      have H4 := hide (beh5_log H3.out (hlg.keep.mono (fun b hb => by rcases hb with hb | hb; exact hb; simp [Value.ownBlock] at hb)) hlg.l)
      obtain ⟨gl, cl, rfl, _, _⟩ := hlg.own.form (by simp)
      have cl0 : w4.cell? ⟨gl, 0, none⟩ = some (.int .i64 tag) := by rw [hlg.own.cellAt 0 (by simp)]; rfl
      clear hlg H3
      have cL : w4.cell? ⟨L, 0, none⟩ = some (.slice (some ⟨gl, 0, none⟩) 1 cl) := by rw [cell_at H4.out.l]; rfl
      have cT : w4.cell? ⟨T, 0, none⟩ = some (.int .i64 tag) := by rw [cell_at H4.out.t]; rfl
      go_wp2_with fail
      go_quiet (fail)
      clear cl0 cL cT
      have H5 := hide (beh5_drewN H4.out nq)
      clear H4
      generalize w4.drewN nq = w5 at H5 ⊢
      have c4 : w5.cell? ⟨C, 4, none⟩ = some (.int .u64 0) := by rw [cell_at H5.out.c]; rfl
      have c5 : w5.cell? ⟨C, 5, none⟩ = some (.int .i64 0) := by rw [cell_at H5.out.c]; rfl
      have c6 : w5.cell? ⟨C, 6, none⟩ = some (.pointer none) := by rw [cell_at H5.out.c]; rfl
      have c7 : w5.cell? ⟨C, 7, none⟩ = some (.slice none 0 0) := by rw [cell_at H5.out.c]; rfl
      have hnil : ∀ wx : World, (Op.equalIn 9999 34 (.pointer none) (.pointer none)).run Yba.prog wx = .ok true wx := fun _ => by kernel_rfl
      have H6 := hide (at6 H5.out)
      go_upto_region 58 with fail
      rename_i K1 aK1 K0 aK0
      have HK := hide aK1
      clear aK1
      go_wp2
      refine HK.out _ _ ?_
      exact part6 Q0 B0 w0 w5 C cb (cb + 1 + 1) (cb + 1) base bb ps (.slice (some ⟨g, 0, none⟩) (ps.length + 1) cap2) (.slice va ps.length vc) H6 _ _ _ _ _ _ _ _ _ _ _ _ _ _ _ _ _ _ _ _ _ _ _ _ _ _ _ _ _ _ _ _ _ _ _ _ _ _ _ _ _ _ _ _ _ _ _ _ _ _ _ _ _ _ _ _ _ _ _ _ _ _ _ _ _ _ _ _ _ _ _ _ _ _ _ _ _ _ _ _ _ _ _ _ _ _ _ _ _ _ _ _ _ _ _ _ _ _ _ _ _ _ _ _ _ _ _ _ _ _ _ _ _ _ _ _ _ _ _ _ _ _ _ _ _ _ _ _ _ _ _ _ _ _ _ _ _ _ _ _ _ _ _ _ _ _ _ _ _ _ _ _ _ _ _ _ _ _ _ _ _ _ _ _ _ _ _ _ _ _ _ _ _ _ _ _ _ _ _ _ _ _ _ _ _ _ _ _ _ _ _ _ _ _ _ _ _ _ _ _ _ _ _ _ _ _ _ _ _ _ _ _ _ hQ
end Go.Proofs.Ybulkdszi
