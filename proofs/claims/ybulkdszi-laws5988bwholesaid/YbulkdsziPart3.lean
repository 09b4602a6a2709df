import Derived.Test.YbulkdsziPart4
namespace Go.Proofs.Ybulkdszi
open Go.RowKit Go.Shelf Go.MuLone Go.Maps

/-- Is number i still registered? -/
def live (gs : List Bool) (i : Nat) : Bool := !(gs[i]?.getD false)
/-- The numbers below j that are still registered. -/
def alive (gs : List Bool) (j : Nat) : List Nat := (List.range j).filter (live gs)
/-- Number i's record: its blocks lie from h on. -/
def recOf (hs : List Nat) (i : Nat) : Rec := ⟨hs[i]?.getD 0 + 2, hs[i]?.getD 0, (i : Int)⟩
theorem alive_succ_yes {gs : List Bool} {j : Nat} (h : live gs j = true) : alive gs (j + 1) = alive gs j ++ [j] := by simp [alive, List.range_succ, List.filter_append, h]
theorem alive_succ_no {gs : List Bool} {j : Nat} (h : live gs j = false) : alive gs (j + 1) = alive gs j := by simp [alive, List.range_succ, List.filter_append, h]
theorem alive_le (gs : List Bool) (j : Nat) : (alive gs j).length ≤ j := by
  have := List.length_filter_le (live gs) (List.range j)
  simpa [alive] using this
theorem alive_lt {gs : List Bool} {j i : Nat} (h : i ∈ alive gs j) : i < j := by
  have := (List.mem_filter.1 h).1
  simpa using this

/-- What the third part is told. -/
structure At3 (B0 : Nat) (w0 wr : World) (T C L G base gb k : Nat) (tag : Int) (hs : List Nat) (gs : List Bool) (v lv : Value) : Prop where
  c : wr.heap[C]? = some (.cells (clk 0 v) 51 (0, 0))
  l : wr.heap[L]? = some (.cells #[lv] 37 (0, 0))
  t : wr.heap[T]? = some (.cells #[.int .i64 tag] 3 (0, 0))
  own : wr.ownsRow base 52 1 v (alive gs k).length ((((alive gs k).map (recOf hs)).map Rec.s).map sptr)
  gown : wr.ownsRow gb 4 1 (.slice (some ⟨G, 0, none⟩) k k) k (gs.map Value.bool)
  nv : ∀ g, v.ownBlock = some g → g ≠ C ∧ g ≠ L ∧ g ≠ T ∧ ∀ i, i < k → g ≠ (recOf hs i).s
  recs : ∀ i, i < k → RecAt L wr (recOf hs i)
  lo : B0 ≤ C ∧ B0 ≤ L ∧ ∀ g, v.ownBlock = some g → B0 ≤ g
  bs : base ≤ wr.heap.size
  hi : B0 ≤ w0.heap.size
  bel : Below B0 w0 wr
  small : k ≤ 255

theorem at4 {B0 : Nat} {w0 ws w1 : World} {T C L G base gb k : Nat} {tag : Int} {hs : List Nat} {gs : List Bool} {v lv vw : Value} (h : At3 B0 w0 ws T C L G base gb k tag hs gs v lv) (kp : Keeps (fun _ => False) ws w1)
    (hw : w1.ownsRow ws.heap.size 3 1 vw (alive gs k).length (ints ((alive gs k).map (fun (i : Nat) => (i : Int))))) : At4 B0 w0 w1 T C L base ws.heap.size tag ((alive gs k).map (recOf hs)) v vw lv := by
  have e1 : ((alive gs k).map (recOf hs)).map Rec.x = (alive gs k).map (fun (i : Nat) => (i : Int)) := by simp [recOf]
  refine ⟨kp.at h.c (fun x => x), kp.at h.l (fun x => x), kp.at h.t (fun x => x), ?_, ?_, fun g hg => ?_, fun g hg => ?_, fun r hr => ?_, h.lo, Nat.le_trans h.bs kp.size, h.hi, below_keep h.bel h.hi kp (fun _ x => x.elim), ?_⟩
  · rw [List.length_map]
    exact owns_keep h.own kp (fun _ _ x => x)
  · rw [e1, List.length_map]
    exact hw
  · have hn := h.nv g hg
    refine ⟨hn.1, hn.2.1, hn.2.2.1, fun hm => ?_⟩
    obtain ⟨r, hr, e⟩ := List.mem_map.1 hm
    obtain ⟨i, hi, rfl⟩ := List.mem_map.1 hr
    exact hn.2.2.2 i (alive_lt hi) e.symm
  · have h1 := (owns_lt hw hg).1
    have h2 := block_lt h.l
    omega
  · obtain ⟨i, hi, rfl⟩ := List.mem_map.1 hr
    have := h.recs i (alive_lt hi)
    exact ⟨kp.at this.st (fun x => x), kp.at this.id (fun x => x)⟩
  · have := alive_le gs k
    have := h.small
    simp
    omega

set_option maxHeartbeats 4000000 in
set_option maxRecDepth 100000 in
theorem part3 (Q0 : Exit → Act → World → Prop) (B0 : Nat) (w0 ws : World) (T C L G base gb k : Nat) (tag : Int) (hs : List Nat) (gs : List Bool) (v lv : Value) (H : Hid (At3 B0 w0 ws T C L G base gb k tag hs gs v lv)) (u0 u1 u2 u3 u4 u6 u10 u11 u12 u14 u15 u16 u17 u18 u19 u20 u21 u22 u23 u24 u25 u26 u27 u28 u29 u30 u31 u32 u33 u34 u35 u36 u37 u38 u39 u40 u41 u42 u43 u44 u45 u46 u47 u48 u49 u50 u51 u52 u53 u54 u55 u56 u57 u58 u59 u60 u61 u62 u63 u64 u65 u66 u67 u68 u69 u70 u71 u72 u73 u74 u75 u76 u77 u78 u79 u80 u81 u82 u83 u84 u85 u86 u87 u88 u89 u90 u91 u92 u93 u94 u95 u96 u97 u98 u99 u100 u101 u102 u103 u104 u105 u106 u107 u108 u109 u110 u111 u112 u113 u114 u115 u116 u117 u118 u119 u120 u121 u122 u123 u124 u125 u126 u127 u128 u129 u130 u131 u132 u133 u134 u135 u136 u137 u138 u139 u140 u141 u142 u143 u144 u145 u146 u147 u148 u149 u150 u151 u152 u153 u154 u155 u156 u157 u158 u159 u160 u161 u162 u163 u164 u165 u166 u167 u168 u169 u170 u171 u172 u173 u174 u175 u176 u177 u178 u179 u180 u181 u182 u183 u184 u185 u186 u187 u188 u189 u190 u191 u192 u193 u194 u195 u196 u197 u198 u199 u200 u201 u202 u203 u204 u205 u206 u207 u208 u209 u210 u211 u212 u213 u214 u215 : Value)
    (hQ : Hid (∀ (a : Act) (w' : World), a.tmps.getD 6 undef = .bool true → a.defers = [] → Below B0 w0 w' → Q0 .ret a w')) :
    Code.wp Yba.prog ((Yba.f4.body.bind (fromRegion 21)).getD .skip) Q0 ⟨#[u0, u1, u2, u3, u4, .pointer (some ⟨T, 0, none⟩), u6, .pointer (some ⟨C, 0, none⟩), .pointer (some ⟨L, 0, none⟩), .int .i64 (k : Int), u10, u11, u12, .slice (some ⟨G, 0, none⟩) k k, u14, u15, u16, u17, u18, u19, u20, u21, u22, u23, u24, u25, u26, u27, u28, u29, u30, u31, u32, u33, u34, u35, u36, u37, u38, u39, u40, u41, u42, u43, u44, u45, u46, u47, u48, u49, u50, u51, u52, u53, u54, u55, u56, u57, u58, u59, u60, u61, u62, u63, u64, u65, u66, u67, u68, u69, u70, u71, u72, u73, u74, u75, u76, u77, u78, u79, u80, u81, u82, u83, u84, u85, u86, u87, u88, u89, u90, u91, u92, u93, u94, u95, u96, u97, u98, u99, u100, u101, u102, u103, u104, u105, u106, u107, u108, u109, u110, u111, u112, u113, u114, u115, u116, u117, u118, u119, u120, u121, u122, u123, u124, u125, u126, u127, u128, u129, u130, u131, u132, u133, u134, u135, u136, u137, u138, u139, u140, u141, u142, u143, u144, u145, u146, u147, u148, u149, u150, u151, u152, u153, u154, u155, u156, u157, u158, u159, u160, u161, u162, u163, u164, u165, u166, u167, u168, u169, u170, u171, u172, u173, u174, u175, u176, u177, u178, u179, u180, u181, u182, u183, u184, u185, u186, u187, u188, u189, u190, u191, u192, u193, u194, u195, u196, u197, u198, u199, u200, u201, u202, u203, u204, u205, u206, u207, u208, u209, u210, u211, u212, u213, u214, u215], []⟩ ws := by
  conv => arg 2; whnf
  obtain ⟨i0, hi, hz0, hz1, hz2⟩ := info_parts Yba.info3
  have hsm := H.out.small
  dsimp only
  go_upto_region 22 with fail
  rename_i K1 aK1 K0 aK0
  have HK := hide aK1
  clear aK1
  have hw0 : (ws.alloc (.cells #[] 3)).ownsRow ws.heap.size 3 1 (.slice (some ⟨ws.heap.size, 0, none⟩) 0 0) 0 (ints []) :=
    ⟨rfl, .inr ⟨ws.heap.size, 0, #[], rfl, Nat.le_refl _, heap_alloc_new _ _, Nat.le_refl _, Nat.zero_le _, rfl, rfl⟩⟩
  have HW0 := hide hw0
  have HKP0 := hide ((Keeps.refl (fun _ => False) ws).alloc (.cells #[] 3))
  clear hw0
  go_wp2_with fail
  generalize ws.alloc (.cells #[] 3) = w1 at HW0 HKP0 ⊢
  go_loopw [17, 18] (fun vw i wl => ∃ j : Nat, j ≤ k ∧ i = .int .i64 j ∧ Hid (wl.ownsRow ws.heap.size 3 1 vw (alive gs j).length (ints ((alive gs j).map (fun (i : Nat) => (i : Int))))) ∧ Hid (Keeps (fun _ => False) ws wl)) (fun _ i _ => k - (intOf i).toNat)
  case atStart => exact ⟨0, Nat.zero_le _, rfl, HW0, HKP0⟩
  case round =>
    obtain ⟨j, hj, rfl, HW, HKP⟩ := hrel
    clear HW0 HKP0
    by_cases hlt : j < k
    · have hlen : gs.length = k := by have := H.out.gown.1; simpa using this
      have cj : wr.cell? ⟨G, j, none⟩ = some (.bool (gs[j]?.getD false)) := by
        have h1 := owns_keep H.out.gown HKP.out (fun _ _ x => x)
        rw [h1.cellAt j (by omega)]
        simp [List.getElem?_eq_getElem (show j < gs.length by omega)]
      have hal := alive_le gs j
      cases hb : gs[j]?.getD false with
      | false =>
        rw [hb] at cj
        have HV := hide (alive_succ_yes (gs := gs) (j := j) (by simp [live, hb]))
        clear hb hlen
        go_wp2_with (at_builtin; refine wpList_append_lies _ rfl _ _ 37 rfl ws.heap.size 3 i0 (.int .i64 0) 1 8 Yba.underlying37 hi hz0 hz1 hz2 rfl (by decide) u17 (alive gs j).length _ rfl (HW.out.alloc _) ⟨wr.heap.size, 0, none⟩ 1 1 [.int .i64 (j : Int)] rfl rfl (cell_one_new _ _ _) (fun u hu => by simp at hu; subst hu; rfl) (by decide) (by unfold maxLen; omega) (by omega) (by have := HKP.out.size; simp; omega) _ rfl ?_)
        intro g cap w2 hown2 hgrow hat hl2
        have HW2 : Hid (w2.ownsRow ws.heap.size 3 1 (.slice (some ⟨g, 0, none⟩) ((alive gs j).length + 1) cap) (alive gs (j + 1)).length (ints ((alive gs (j + 1)).map (fun (i : Nat) => (i : Int))))) := by
          rw [HV.out]
          refine hide ?_
          simpa [ints] using hown2
        have HKP2 : Hid (Keeps (fun _ => False) ws w2) := hide ((HKP.out.alloc _).grown hgrow (fun x hx e => by have := (owns_lt HW.out e).1; omega))
        clear hown2 hgrow hat hl2 HW HKP cj
        go_wp2
        go_roundw
        case rel => exact ⟨j + 1, by omega, by go_num, HW2, HKP2⟩
        case measure => simp [intOf]; omega
      | true =>
        rw [hb] at cj
        have HV := hide (alive_succ_no (gs := gs) (j := j) (by simp [live, hb]))
        have HW2 : Hid (wr.ownsRow ws.heap.size 3 1 u17 (alive gs (j + 1)).length (ints ((alive gs (j + 1)).map (fun (i : Nat) => (i : Int))))) := by
          rw [HV.out]
          exact HW
        clear hb hlen
        go_wp2
        go_roundw
        case rel => exact ⟨j + 1, by omega, by go_num, HW2, HKP⟩
        case measure => simp [intOf]; omega
    · obtain rfl : j = k := by omega
      have H4 := hide (at4 H.out HKP.out HW.out)
      clear HW HKP
      go_wp2
      refine HK.out _ _ ?_
      exact part4 Q0 B0 w0 wr T C L base ws.heap.size tag ((alive gs j).map (recOf hs)) v u17 lv H4 _ _ _ _ _ _ _ _ _ _ _ _ _ _ _ _ _ _ _ _ _ _ _ _ _ _ _ _ _ _ _ _ _ _ _ _ _ _ _ _ _ _ _ _ _ _ _ _ _ _ _ _ _ _ _ _ _ _ _ _ _ _ _ _ _ _ _ _ _ _ _ _ _ _ _ _ _ _ _ _ _ _ _ _ _ _ _ _ _ _ _ _ _ _ _ _ _ _ _ _ _ _ _ _ _ _ _ _ _ _ _ _ _ _ _ _ _ _ _ _ _ _ _ _ _ _ _ _ _ _ _ _ _ _ _ _ _ _ _ _ _ _ _ _ _ _ _ _ _ _ _ _ _ _ _ _ _ _ _ _ _ _ _ _ _ _ _ _ _ _ _ _ _ _ _ _ _ _ _ _ _ _ _ _ _ _ _ _ _ _ _ _ _ _ _ _ _ _ _ _ _ _ _ _ _ _ _ _ _ _ _ _ hQ
end Go.Proofs.Ybulkdszi
