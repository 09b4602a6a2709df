import Derived.Test.YbulkdsziPart5
import Derived.Laws.AppendOwnNone
namespace Go.Proofs.Ybulkdszi
open Go.RowKit Go.Shelf Go.MuLone

/-- A settler that is left: its block, the block of its number, the number. -/
structure Rec where
  s : Nat
  b : Nat
  x : Int
/-- What a record says of the world. -/
structure RecAt (L : Nat) (w : World) (r : Rec) : Prop where
  st : w.heap[r.s]? = some (.cells #[.func (.func 8) #[] #[.pointer (some ⟨L, 0, none⟩), .pointer (some ⟨r.b, 0, none⟩)]] 54 (0, 0))
  id : w.heap[r.b]? = some (.cells #[.int .i64 r.x] 3 (0, 0))

/-- What the fourth part is told. -/
structure At4 (B0 : Nat) (w0 wr : World) (T C L base wb : Nat) (tag : Int) (rs : List Rec) (v vw lv : Value) : Prop where
  c : wr.heap[C]? = some (.cells (clk 0 v) 51 (0, 0))
  l : wr.heap[L]? = some (.cells #[lv] 37 (0, 0))
  t : wr.heap[T]? = some (.cells #[.int .i64 tag] 3 (0, 0))
  own : wr.ownsRow base 52 1 v rs.length ((rs.map Rec.s).map sptr)
  wown : wr.ownsRow wb 3 1 vw rs.length (ints (rs.map Rec.x))
  nv : ∀ g, v.ownBlock = some g → g ≠ C ∧ g ≠ L ∧ g ≠ T ∧ g ∉ rs.map Rec.s
  nw : ∀ g, vw.ownBlock = some g → g ≠ L
  recs : ∀ r ∈ rs, RecAt L wr r
  lo : B0 ≤ C ∧ B0 ≤ L ∧ ∀ g, v.ownBlock = some g → B0 ≤ g
  bs : base ≤ wr.heap.size
  hi : B0 ≤ w0.heap.size
  bel : Below B0 w0 wr
  small : rs.length ≤ 65536

/-- .. behind new blocks. -/
theorem at4_new {B0 : Nat} {w0 wr w1 : World} {T C L base wb : Nat} {tag : Int} {rs : List Rec} {v vw lv : Value} (h : At4 B0 w0 wr T C L base wb tag rs v vw lv) (g : wr.grownBy w1 none) : At4 B0 w0 w1 T C L base wb tag rs v vw lv := by
  have k : Keeps (fun _ => False) wr w1 := (Keeps.refl _ wr).grown g (fun _ _ e => by cases e)
  exact ⟨k.at h.c (fun x => x), k.at h.l (fun x => x), k.at h.t (fun x => x), owns_keep h.own k (fun _ _ x => x), owns_keep h.wown k (fun _ _ x => x), h.nv, h.nw, fun r hr => ⟨k.at (h.recs r hr).st (fun x => x), k.at (h.recs r hr).id (fun x => x)⟩, h.lo, Nat.le_trans h.bs k.size, h.hi, below_keep h.bel h.hi k (fun _ x => x.elim), h.small⟩
/-- .. behind what turns the log alone. -/
theorem at4_log {B0 : Nat} {w0 w1 w2 : World} {T C L base wb : Nat} {tag : Int} {rs : List Rec} {v vw lv lv' : Value} (h : At4 B0 w0 w1 T C L base wb tag rs v vw lv) (k : Keeps (· = L) w1 w2) (hl : w2.heap[L]? = some (.cells #[lv'] 37 (0, 0))) : At4 B0 w0 w2 T C L base wb tag rs v vw lv' := by
  have d : ∀ {b : Nat} {cs : Array Value} {t : TypeId}, w1.heap[b]? = some (.cells cs t (0, 0)) → t ≠ 37 → b ≠ L := fun hb ht e => by
    rw [e, h.l] at hb
    simp at hb
    exact ht hb.2.symm
  exact ⟨k.at h.c (d h.c (by decide)), hl, k.at h.t (d h.t (by decide)), owns_keep h.own k (fun x hx e => (h.nv x hx).2.1 e), owns_keep h.wown k (fun x hx e => h.nw x hx e), h.nv, h.nw, fun r hr => ⟨k.at (h.recs r hr).st (d (h.recs r hr).st (by decide)), k.at (h.recs r hr).id (d (h.recs r hr).id (by decide))⟩, h.lo, Nat.le_trans h.bs k.size, h.hi, below_keep h.bel h.hi k (fun b hb => by rw [hb]; exact h.lo.2.1), h.small⟩
theorem at4_drewN {B0 : Nat} {w0 w1 : World} {T C L base wb : Nat} {tag : Int} {rs : List Rec} {v vw lv : Value} (h : At4 B0 w0 w1 T C L base wb tag rs v vw lv) (q : Nat) : At4 B0 w0 (w1.drewN q) T C L base wb tag rs v vw lv :=
  ⟨h.c, h.l, h.t, h.own, h.wown, h.nv, h.nw, fun r hr => ⟨(h.recs r hr).st, (h.recs r hr).id⟩, h.lo, h.bs, h.hi, below_drewN h.bel q, h.small⟩

/-- 'before', beside it. -/
structure Bef (C L : Nat) (v vb : Value) (bb n : Nat) (ps : List Nat) (w : World) : Prop where
  own : w.ownsRow bb 52 1 vb n (ps.map sptr)
  nb : ∀ g, vb.ownBlock = some g → g ≠ C ∧ g ≠ L ∧ v.ownBlock ≠ some g
theorem bef_log {C L : Nat} {v vb : Value} {bb n : Nat} {ps : List Nat} {w w' : World} (h : Bef C L v vb bb n ps w) (k : Keeps (· = L) w w') : Bef C L v vb bb n ps w' :=
  ⟨owns_keep h.own k (fun x hx e => (h.nb x hx).2.1 e), h.nb⟩

theorem at5 {B0 : Nat} {w0 w1 : World} {T C L base wb bb : Nat} {tag : Int} {rs : List Rec} {v vw vb lv : Value} (h : At4 B0 w0 w1 T C L base wb tag rs v vw lv) (b : Bef C L v vb bb rs.length (rs.map Rec.s) w1) : At5 B0 w0 w1 T C L base bb tag (rs.map Rec.s) v vb lv :=
  ⟨h.c, h.l, h.t, by rw [List.length_map]; exact h.own, by rw [List.length_map]; exact b.own, h.nv, b.nb, fun p hp => by obtain ⟨r, hr, rfl⟩ := List.mem_map.1 hp; exact ⟨_, (h.recs r hr).st⟩, h.lo, h.bs, h.hi, h.bel, by have := h.small; simpa using this⟩

theorem own_news {w : World} {base g n cap : Nat} {xs : List Value} (h : w.ownsRow base 52 1 (.slice (some ⟨g, 0, none⟩) n cap) n xs) : ∀ j u, xs[j]? = some u → w.cell? ((⟨g, 0, none⟩ : Addr).add j) = some u := h.cells (g := g) rfl
theorem sptr_one (ps : List Nat) : ∀ u ∈ ps.map sptr, u.oneCell' = true := by
  intro u hu
  obtain ⟨p, _, rfl⟩ := List.mem_map.1 hu
  rfl
theorem slice_of {w : World} {base : Nat} {e : TypeId} {v : Value} {n : Nat} {xs : List Value} (h : w.ownsRow base e 1 v n xs) : ∃ a c, v = .slice a n c := by
  rcases h.2 with ⟨h', h0⟩ | ⟨g', cap', cur, h', _⟩
  · exact ⟨none, 0, by rw [h', h0]⟩
  · exact ⟨_, _, h'⟩
theorem take_snoc_x (rs : List Rec) (k : Nat) (h : k < rs.length) : (rs.map Rec.x).take (k + 1) = (rs.map Rec.x).take k ++ [(rs[k]).x] := by
  rw [List.take_succ_eq_append_getElem (by simpa using h)]
  simp

set_option maxHeartbeats 4000000 in
set_option maxRecDepth 100000 in
theorem part4 (Q0 : Exit → Act → World → Prop) (B0 : Nat) (w0 ws : World) (T C L base wb : Nat) (tag : Int) (rs : List Rec) (v vw lv : Value) (H : Hid (At4 B0 w0 ws T C L base wb tag rs v vw lv)) (u0 u1 u2 u3 u4 u6 u9 u10 u11 u12 u13 u14 u15 u16 u18 u19 u20 u21 u22 u23 u24 u25 u26 u27 u28 u29 u30 u31 u32 u33 u34 u35 u36 u37 u38 u39 u40 u41 u42 u43 u44 u45 u46 u47 u48 u49 u50 u51 u52 u53 u54 u55 u56 u57 u58 u59 u60 u61 u62 u63 u64 u65 u66 u67 u68 u69 u70 u71 u72 u73 u74 u75 u76 u77 u78 u79 u80 u81 u82 u83 u84 u85 u86 u87 u88 u89 u90 u91 u92 u93 u94 u95 u96 u97 u98 u99 u100 u101 u102 u103 u104 u105 u106 u107 u108 u109 u110 u111 u112 u113 u114 u115 u116 u117 u118 u119 u120 u121 u122 u123 u124 u125 u126 u127 u128 u129 u130 u131 u132 u133 u134 u135 u136 u137 u138 u139 u140 u141 u142 u143 u144 u145 u146 u147 u148 u149 u150 u151 u152 u153 u154 u155 u156 u157 u158 u159 u160 u161 u162 u163 u164 u165 u166 u167 u168 u169 u170 u171 u172 u173 u174 u175 u176 u177 u178 u179 u180 u181 u182 u183 u184 u185 u186 u187 u188 u189 u190 u191 u192 u193 u194 u195 u196 u197 u198 u199 u200 u201 u202 u203 u204 u205 u206 u207 u208 u209 u210 u211 u212 u213 u214 u215 : Value)
    (hQ : Hid (∀ (a : Act) (w' : World), a.tmps.getD 6 undef = .bool true → a.defers = [] → Below B0 w0 w' → Q0 .ret a w')) :
    Code.wp Yba.prog ((Yba.f4.body.bind (fromRegion 27)).getD .skip) Q0 ⟨#[u0, u1, u2, u3, u4, .pointer (some ⟨T, 0, none⟩), u6, .pointer (some ⟨C, 0, none⟩), .pointer (some ⟨L, 0, none⟩), u9, u10, u11, u12, u13, u14, u15, u16, vw, u18, u19, u20, u21, u22, u23, u24, u25, u26, u27, u28, u29, u30, u31, u32, u33, u34, u35, u36, u37, u38, u39, u40, u41, u42, u43, u44, u45, u46, u47, u48, u49, u50, u51, u52, u53, u54, u55, u56, u57, u58, u59, u60, u61, u62, u63, u64, u65, u66, u67, u68, u69, u70, u71, u72, u73, u74, u75, u76, u77, u78, u79, u80, u81, u82, u83, u84, u85, u86, u87, u88, u89, u90, u91, u92, u93, u94, u95, u96, u97, u98, u99, u100, u101, u102, u103, u104, u105, u106, u107, u108, u109, u110, u111, u112, u113, u114, u115, u116, u117, u118, u119, u120, u121, u122, u123, u124, u125, u126, u127, u128, u129, u130, u131, u132, u133, u134, u135, u136, u137, u138, u139, u140, u141, u142, u143, u144, u145, u146, u147, u148, u149, u150, u151, u152, u153, u154, u155, u156, u157, u158, u159, u160, u161, u162, u163, u164, u165, u166, u167, u168, u169, u170, u171, u172, u173, u174, u175, u176, u177, u178, u179, u180, u181, u182, u183, u184, u185, u186, u187, u188, u189, u190, u191, u192, u193, u194, u195, u196, u197, u198, u199, u200, u201, u202, u203, u204, u205, u206, u207, u208, u209, u210, u211, u212, u213, u214, u215], []⟩ ws := by
  conv => arg 2; whnf
  have c8 : ws.cell? ⟨C, 8, none⟩ = some v := by rw [cell_at H.out.c]; rfl
  obtain ⟨i0, hi, hz0, hz1, hz2⟩ := info_parts Yba.info52
  have hsm := H.out.small
  dsimp only
  go_upto_region 27 with fail
  go_cut [19] from 85 to 89 (fun s w' => Hid (At4 B0 w0 w' T C L base wb tag rs v vw lv) ∧ Hid (Bef C L v s ws.heap.size rs.length (rs.map Rec.s) w'))
  case first =>
    by_cases hv : v = .slice none 0 0
    · have hn : rs.length = 0 := by
        rcases H.out.own.2 with ⟨_, h0⟩ | ⟨g', cap', cur, h', _⟩
        · exact h0
        · rw [hv] at h'; cases h'
      subst hv
      have HB : Hid (Bef C L (.slice none 0 0) (.slice none 0 0) ws.heap.size rs.length (rs.map Rec.s) ws) := hide ⟨⟨by simp, .inl ⟨rfl, hn⟩⟩, fun g hg => by simp [Value.ownBlock] at hg⟩
      go_wp2_with (at_builtin; refine wpList_append_own_none rfl _ _ 41 rfl ws.heap.size 52 i0 1 Yba.underlying41 hi (.slice none 0 0) 0 [] rfl (World.ownsRow_nil _ _ _ _) rfl ?_)
      go_wp2
      go_meet
      case rel => exact ⟨H, HB⟩
    · obtain ⟨g, cap, rfl⟩ : ∃ g cap, v = .slice (some ⟨g, 0, none⟩) rs.length cap := by
        rcases H.out.own.2 with ⟨h', h0⟩ | ⟨g', cap', cur, h', _⟩
        · exact absurd h' hv
        · exact ⟨_, _, h'⟩
      go_wp2_with (at_builtin; refine wpList_append_own _ rfl _ _ 41 rfl ws.heap.size 52 i0 (.pointer none) 1 8 Yba.underlying41 hi hz0 hz1 hz2 rfl (by decide) (.slice none 0 0) 0 [] rfl (World.ownsRow_nil _ _ _ _) ⟨g, 0, none⟩ rs.length cap ((rs.map Rec.s).map sptr) rfl (by simp) (own_news H.out.own) (sptr_one _) (by unfold maxLen; omega) (by omega) (Nat.le_refl _) ?_)
      intro vb w1 hown1 hgrow _
      have HB : Hid (Bef C L (.slice (some ⟨g, 0, none⟩) rs.length cap) vb ws.heap.size rs.length (rs.map Rec.s) w1) := by
        refine hide ⟨?_, fun k hk => ?_⟩
        · simpa using hown1
        · have h1 := (owns_lt hown1 hk).1
          have h2 := block_lt H.out.c
          have h3 := block_lt H.out.l
          have h4 := (owns_lt H.out.own (g := g) rfl).2
          refine ⟨by omega, by omega, fun e => ?_⟩
          simp [Value.ownBlock] at e
          omega
      have HA := hide (at4_new H.out hgrow)
      clear hown1 hgrow
      go_wp2
      go_meet
      case rel => exact ⟨HA, HB⟩
  case rest =>
    obtain ⟨HA, HB⟩ := hcut
    clear H c8 hi hz0 hz1 hz2
    obtain ⟨va, vc, rfl⟩ := slice_of HB.out.own
    obtain ⟨wa, wc2, rfl⟩ := slice_of HA.out.wown
    have cL : wc.cell? ⟨L, 0, none⟩ = some lv := by rw [cell_at HA.out.l]; rfl
    have fL : wc.frozen? ⟨L, 0, none⟩ = false := frozen_at HA.out.l 0
    have kL : Keeps (· = L) wc (wc.setCell ⟨L, 0, none⟩ (.slice none 0 0)) := (Keeps.refl (· = L) wc).setCell (p := ⟨L, 0, none⟩) (fun _ => rfl) _
    have hL3 : (wc.setCell ⟨L, 0, none⟩ (.slice none 0 0)).heap[L]? = some (.cells #[.slice none 0 0] 37 (0, 0)) := by
      rw [heap_setCell_same _ L 0 _ 37 _ HA.out.l]
      rfl
    have HA3 := hide (at4_log HA.out kL hL3)
    have HB3 := hide (bef_log HB.out kL)
    clear kL hL3 HA HB
    go_wp2_with fail
    clear cL fL
    generalize wc.setCell ⟨L, 0, none⟩ (.slice none 0 0) = w4 at HA3 HB3 ⊢
    go_loopw [97] (fun i wl => ∃ k : Nat, k ≤ rs.length ∧ i = .int .i64 k ∧ ∃ lv', Hid (At4 B0 w0 wl T C L base wb tag rs v (.slice wa rs.length wc2) lv') ∧ Hid (Bef C L v (.slice va rs.length vc) ws.heap.size rs.length (rs.map Rec.s) wl) ∧ Hid (wl.ownsRow w4.heap.size 3 1 lv' k (ints ((rs.map Rec.x).take k))) ∧ Hid (Keeps (· = L) w4 wl)) (fun i _ => rs.length - (intOf i).toNat)
    case atStart => exact ⟨0, Nat.zero_le _, rfl, _, HA3, HB3, hide (World.ownsRow_nil _ _ _ _), hide (Keeps.refl _ _)⟩
    case round =>
      obtain ⟨k, hk, rfl, lv', HA4, HB4, HO4, HK4⟩ := hrel
      by_cases hlt : k < rs.length
      · obtain ⟨ga, rfl⟩ : ∃ ga, va = some ⟨ga, 0, none⟩ := by
          obtain ⟨ga, capa, e, _⟩ := HB4.out.own.form (by omega)
          injection e with e1
          exact ⟨ga, e1⟩
        obtain ⟨r, hr⟩ : ∃ r, r = rs[k] := ⟨_, rfl⟩
        have hrm : r ∈ rs := by rw [hr]; exact List.getElem_mem hlt
        have ck : wr.cell? ⟨ga, k, none⟩ = some (.pointer (some ⟨r.s, 0, none⟩)) := by
          rw [HB4.out.own.cellAt k (by omega)]
          simp [List.getElem?_eq_getElem hlt, hr, sptr]
        have cs : wr.cell? ⟨r.s, 0, none⟩ = some (.func (.func 8) #[] #[.pointer (some ⟨L, 0, none⟩), .pointer (some ⟨r.b, 0, none⟩)]) := by rw [cell_at (HA4.out.recs r hrm).st]; rfl
        have HR := hide hr
        clear hr
        go_wp2_with fail
        refine (log8_any L r.b r.x lv' ((rs.map Rec.x).take k) w4.heap.size wr HA4.out.l (HA4.out.recs r hrm).id (by have e : ((rs.map Rec.x).take k).length = k := by simp; omega
                                                                                                                     rw [e]; exact HO4.out) (fun e => by have h1 := (owns_lt HO4.out e).1; have h2 := block_lt HA3.out.l; omega) HK4.out.size (by simp; omega)).mono ?_
        rintro e w5 ⟨rfl, lv5, hlg⟩
        have kk : Keeps (· = L) w4 w5 := HK4.out.thenNew hlg.keep (fun i hi hd => by rcases hd with hd | hd; exact hd; have := (owns_lt HO4.out hd).1; omega)
        have HA5 := hide (at4_log HA3.out kk hlg.l)
        have HB5 := hide (bef_log HB3.out kk)
        have HK5 := hide kk
        have HO5 : Hid (w5.ownsRow w4.heap.size 3 1 lv5 (k + 1) (ints ((rs.map Rec.x).take (k + 1)))) := by
          have h1 := hlg.own
          rw [HR.out, ← take_snoc_x rs k hlt] at h1
          have e : ((rs.map Rec.x).take (k + 1)).length = k + 1 := by simp; omega
          rw [e] at h1
          exact hide h1
        clear hlg kk ck cs HA4 HB4 HO4 HK4
        go_wp2
        go_roundw
        case rel => exact ⟨k + 1, by omega, by go_num, lv5, HA5, HB5, HO5, HK5⟩
        case measure => simp [intOf]; omega
      · obtain rfl : k = rs.length := by omega
        have cL : wr.cell? ⟨L, 0, none⟩ = some lv' := by rw [cell_at HA4.out.l]; rfl
        have HO : Hid (wr.ownsRow w4.heap.size 3 1 lv' (rs.map Rec.x).length (ints (rs.map Rec.x))) := by
          have h1 := HO4.out
          rw [List.take_of_length_le (by simp)] at h1
          rw [List.length_map]
          exact hide h1
        clear HO4 HK4 HA3 HB3
        go_upto_region 36 with fail
        rename_i K1 aK1 K0 aK0
        have HK := hide aK1
        clear aK1
        go_wp2_with fail
        refine (beq_own w4.heap.size wb lv' _ (rs.map Rec.x) wr HO.out (by rw [List.length_map]; exact HA4.out.wown) (by simp; omega)).mono ?_
        rintro e w6 ⟨rfl, q, rfl⟩
        have H5 := hide (at5 (at4_drewN HA4.out q) ⟨HB4.out.own, HB4.out.nb⟩)
        clear HA4 HB4 HO cL
        generalize wr.drewN q = w7 at H5 ⊢
        go_wp2
        refine HK.out _ _ ?_
        exact part5 Q0 B0 w0 w7 T C L base ws.heap.size tag (rs.map Rec.s) v (.slice va rs.length vc) lv' H5 _ _ _ _ _ _ _ _ _ _ _ _ _ _ _ _ _ _ _ _ _ _ _ _ _ _ _ _ _ _ _ _ _ _ _ _ _ _ _ _ _ _ _ _ _ _ _ _ _ _ _ _ _ _ _ _ _ _ _ _ _ _ _ _ _ _ _ _ _ _ _ _ _ _ _ _ _ _ _ _ _ _ _ _ _ _ _ _ _ _ _ _ _ _ _ _ _ _ _ _ _ _ _ _ _ _ _ _ _ _ _ _ _ _ _ _ _ _ _ _ _ _ _ _ _ _ _ _ _ _ _ _ _ _ _ _ _ _ _ _ _ _ _ _ _ _ _ _ _ _ _ _ _ _ _ _ _ _ _ _ _ _ _ _ _ _ _ _ _ _ _ _ _ _ _ _ _ _ _ _ _ _ _ _ _ _ _ _ _ _ _ _ _ _ _ _ _ _ _ _ _ _ _ _ _ _ _ _ _ _ _ _ hQ
end Go.Proofs.Ybulkdszi
