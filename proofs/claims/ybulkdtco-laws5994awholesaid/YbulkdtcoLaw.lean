import Derived.Test.YbulkdtcoState
namespace Go.Proofs.Ybulkdtco
open Go.RowKit Go.Maps

theorem block_lt {w : World} {b : Nat} {o : Obj} (h : w.heap[b]? = some o) : b < w.heap.size := (Array.getElem?_eq_some_iff.1 h).1
theorem cell_lt {w : World} {p : Addr} {v : Value} (h : w.cell? p = some v) : p.block < w.heap.size := by
  rcases Nat.lt_or_ge p.block w.heap.size with h1 | h1
  · exact h1
  · simp [World.cell?, Array.getElem?_eq_none h1] at h

theorem cell_at {w : World} {b : Nat} {cs : Array Value} {T : TypeId} {fr : Nat × Nat} (hb : w.heap[b]? = some (.cells cs T fr)) (j : Nat) : w.cell? ⟨b, j, none⟩ = cs[j]? := by simp [World.cell?, hb]
theorem neq24 (w : World) : (binOp .neq 24 (.slice none 0 0) (.slice none 0 0)).run Yba.prog w = .ok (.bool false) w := by kernel_rfl
theorem neq25 (w : World) : (binOp .neq 25 (.slice none 0 0) (.slice none 0 0)).run Yba.prog w = .ok (.bool false) w := by kernel_rfl
theorem neq23 (w : World) : (binOp .neq 23 (.map none) (.map none)).run Yba.prog w = .ok (.bool false) w := by kernel_rfl
theorem neq32 (w : World) : (binOp .neq 32 (.map none) (.map none)).run Yba.prog w = .ok (.bool false) w := by kernel_rfl
theorem neq33 (w : World) : (binOp .neq 33 (.map none) (.map none)).run Yba.prog w = .ok (.bool false) w := by kernel_rfl

theorem says_put {w1 w2 : World} {m n : Nat} {e : Nat → Ent} {D : DataW Value} {v : Value} (hown : w1.ownsMap Yba.prog 9 R0 m n D) (hD : IsMap D) (hall : ∀ s : ByteArray, (last e s n = none → ∀ z, D.atKey (.string s.data.toList) z = z) ∧ ∀ o, last e s n = some o → ∃ v, (∀ z, D.atKey (.string s.data.toList) z = .held v) ∧ HostIs w1 v s o)
    (hown2 : w2.ownsMap Yba.prog 9 R0 m (n + 1) (D.put (.string (e n).key.data.toList) (.held v))) (hg : w1.grownBy w2 (some m)) (hv : HostIs w1 v (e n).key ((e n).cnt, (e n).nul)) : Says w2 m (n + 1) e := by
  obtain ⟨es, clock, hm, _⟩ := hown
  have kb : ∀ (b : Nat) (cs : Array Value), w1.heap[b]? = some (.cells cs 35 (0, 0)) → w2.heap[b]? = some (.cells cs 35 (0, 0)) := fun b cs hb => by
    rw [hg.block b (block_lt hb) (fun h => by cases h; rw [hm] at hb; cases hb)]
    exact hb
  refine ⟨_, hown2, hD.put _ _, fun s => ?_⟩
  by_cases hk : (e n).key = s
  · subst hk
    refine ⟨fun h => by simp [last] at h, fun o ho => ?_⟩
    simp [last] at ho
    subst ho
    exact ⟨v, fun z => atKey_put_same hD (by simp [WideAt.IsKeyLit]) _ _, hv.kept kb⟩
  · have hne : Lit.string s.data.toList ≠ Lit.string (e n).key.data.toList := fun h => by
      injection h with h
      exact hk (WideShapes.bytes_inj h).symm
    have hl : last e s (n + 1) = last e s n := by simp [last, hk]
    rw [hl]
    refine ⟨fun h z => by rw [atKey_put_other hne]; exact (hall s).1 h z, fun o ho => ?_⟩
    obtain ⟨v', h1, h2⟩ := (hall s).2 o ho
    exact ⟨v', fun z => by rw [atKey_put_other hne]; exact h1 z, h2.kept kb⟩

def que (m : Nat) : Array Value := #[.map (some m), .slice none 0 0, .slice none 0 0]
structure St (B0 : Nat) (w wl : World) (n : Nat) (e : Nat → Ent) : Prop where
  q : wl.heap[B0]? = some (.cells (que (B0 + 1)) 27 (0, 0))
  says : Says wl (B0 + 1) n e
  bel : Below B0 w wl
  b0 : B0 = w.heap.size

theorem st_step {B0 n : Nat} {w wr w1 w2 : World} {e : Nat → Ent} (h : St B0 w wr n e) (k : Below wr.heap.size wr w1) (hg : w1.grownBy w2 (some (B0 + 1))) (hs : Says w2 (B0 + 1) (n + 1) e) : St B0 w w2 (n + 1) e := by
  have hq : w1.heap[B0]? = some (.cells (que (B0 + 1)) 27 (0, 0)) := by rw [k.block B0 (block_lt h.q)]; exact h.q
  refine ⟨?_, hs, ?_, h.b0⟩
  · rw [hg.block B0 (block_lt hq) (fun h => by simp at h)]
    exact hq
  · have hB : B0 ≤ wr.heap.size := Nat.le_of_lt (block_lt h.q)
    exact (h.bel.trans (k.mono hB)).grown hg (Nat.le_of_lt (block_lt hq)) (fun j hj => by cases hj; omega)

theorem IsEnt.below {w w' : World} {a : Option Addr} {len cap : Nat} {e : Nat → Ent} (h : IsEnt w a len cap e) {B : Nat} (k : Below B w w') (hB : w.heap.size ≤ B) : IsEnt w' a len cap e := by
  obtain ⟨hlc, hcm, hsz, hc⟩ := h
  refine ⟨hlc, hcm, hsz, fun hp => ?_⟩
  obtain ⟨g, off, rfl, hcell⟩ := hc hp
  refine ⟨g, off, rfl, fun j hj => ?_⟩
  obtain ⟨c0, c1, c2⟩ := hcell j hj
  have hg : g < B := Nat.lt_of_lt_of_le (by exact cell_lt c0) hB
  exact ⟨by rw [k.cell (by exact hg)]; exact c0, by rw [k.cell (by exact hg)]; exact c1, by rw [k.cell (by exact hg)]; exact c2⟩

set_option maxRecDepth 100000 in
set_option maxHeartbeats 2000000 in
theorem law_big (a : Option Addr) (len cap : Nat) (p : Int) (q : ByteArray) (u : Bool) (w : World) (hbig : len ≤ 9223372036854775807) (h : 4096 < len) :
    Calls Yba.prog 3 #[.slice a len cap, .int .u8 p, .string q, .bool u] w fun x w' => x = .returned (.bool true) ∧ Below w.heap.size w w' := by
  go_enter Yba.func3, Yba.ntmps3
  go_wp2
  go_ret
  exact ⟨rfl, Below.refl _ _⟩

set_option maxRecDepth 100000 in
set_option maxHeartbeats 2000000 in
theorem law_nil (a : Option Addr) (cap : Nat) (p : Int) (q : ByteArray) (u : Bool) (w : World) (e : Nat → Ent) (h : IsEnt w a 0 cap e) :
    Calls Yba.prog 3 #[.slice a 0 cap, .int .u8 p, .string q, .bool u] w fun x w' => x = .returned (.bool true) ∧ Below w.heap.size w w' := by
  have HB : Hid (Below w.heap.size w (w.alloc (.cells #[.map none, .slice none 0 0, .slice none 0 0] 27))) := hide ((Below.refl _ _).alloc (Nat.le_refl _) _)
  have HM := hide (model_walk a 0 cap e q _ (h.below HB.out (Nat.le_refl _)))
  have n1 := neq23
  have n2 := neq24
  have n3 := neq25
  cases u <;>
  · go_enter Yba.func3, Yba.ntmps3
    go_wp2_with (first | (go_at_call 4; refine HM.out.mono ?_; rintro x w1 ⟨rfl, rfl⟩; unfold tri) | (go_at_call 5; refine (del_nil _ _ _ (by rw [cell_at (heap_alloc_new _ _)]; rfl)).mono ?_; rintro x w1 ⟨rfl, rfl⟩))
    refine wp_loop_rounds 1 ?_
    rw [rounds_succ]
    go_wp2
    go_ret
    exact ⟨rfl, HB.out⟩

def isRegion (n : Nat) : Code → Bool
  | .region i _ _ => i == n
  | _ => false
/-- The part of a body that begins with region n. -/
def fromRegion (n : Nat) : Code → Option Code
  | .seq a b => if isRegion n a then some (.seq a b) else match fromRegion n a with
    | some c => some c
    | none => fromRegion n b
  | .block _ c => fromRegion n c
  | .scope c => fromRegion n c
  | .cond _ a b => match fromRegion n a with
    | some c => some c
    | none => fromRegion n b
  | _ => none

theorem st_below {B0 n : Nat} {w wr w1 : World} {e : Nat → Ent} (h : St B0 w wr n e) (k : Below wr.heap.size wr w1) : St B0 w w1 n e :=
  ⟨by rw [k.block B0 (block_lt h.q)]; exact h.q, says_below h.says k, h.bel.trans (k.mono (Nat.le_of_lt (block_lt h.q))), h.b0⟩
theorem below_drewN {B : Nat} {a w : World} (h : Below B a w) (n : Nat) : Below B a (w.drewN n) := ⟨h.os, h.tape, h.output, h.size, h.block⟩
theorem last_some {e : Nat → Ent} {k : ByteArray} : ∀ {len n : Nat}, n < len → (e n).key = k → ∃ o, last e k len = some o
  | 0, n, h, _ => absurd h (by omega)
  | m + 1, n, h, hk => by
    by_cases hm : (e m).key = k
    · exact ⟨_, by simp [last, hm]; rfl⟩
    · have : n ≠ m := fun h => hm (h ▸ hk)
      obtain ⟨o, ho⟩ := last_some (len := m) (n := n) (by omega) hk
      exact ⟨o, by simp [last, hm, ho]⟩

set_option maxRecDepth 100000 in
set_option maxHeartbeats 4000000 in
theorem part17 (Q0 : Exit → Act → World → Prop) (B0 : Nat) (w wr : World) (a : Option Addr) (len cap : Nat) (e : Nat → Ent) (k : ByteArray) (sz : Nat) (hlen : len ≤ 4096) (h0 : 0 < len) (hks : k.size ≤ maxLen) (HI : Hid (IsEnt w a len cap e)) (HS : Hid (St B0 w wr len e)) (HL : Hid (∀ ty, (Builtin.len_ #[23] ty #[.map (some (B0 + 1))]).run Yba.prog wr = .ok (.int .i64 sz) wr))
    (u1 u2 u3 u4 u5 u6 u7 u8 u10 u11 u14 u15 u16 u17 u18 u19 u20 u21 u22 u23 u24 u25 u26 u27 u28 u29 u30 u31 u32 u33 u34 u35 u36 u37 u38 u39 u40 u41 u42 u43 u44 u45 u46 u47 u48 u49 u50 u51 u52 u53 u54 u55 u56 u57 u58 u59 u60 u61 u62 u63 u64 u65 u66 u67 u68 u69 u70 u71 u72 u73 u74 u75 u76 u77 u78 u79 u80 u81 u82 u83 u84 u85 u86 u87 u88 u89 u90 u91 u92 u93 u94 u95 u96 u97 u98 u99 u100 u101 u102 u103 u104 u105 u106 u107 u108 u109 u110 u111 u112 u113 u114 u115 u116 u117 u118 u119 u120 u121 u122 u123 u124 u125 u126 u127 u128 u129 u130 u131 u132 u133 u134 u135 u136 u137 u138 u139 u140 u141 u142 u143 u144 u145 u146 u147 u148 u149 u150 u151 u152 u153 u154 u155 u156 u157 u158 u159 u160 u161 u162 u163 u164 u165 u166 u167 u168 u169 u170 u171 : Value)
    (hQ : Hid (∀ (a : Act) (w' : World), a.tmps.getD 8 undef = .bool true → a.defers = [] → Below B0 w w' → Q0 .ret a w')) :
    Code.wp Yba.prog ((Yba.f3.body.bind (fromRegion 17)).getD .skip) Q0 ⟨#[.slice a len cap, u1, u2, u3, u4, u5, u6, u7, u8, .pointer (some ⟨B0, 0, none⟩), u10, u11, .int .i64 (sz : Int), .string k, u14, u15, u16, u17, u18, u19, u20, u21, u22, u23, u24, u25, u26, u27, u28, u29, u30, u31, u32, u33, u34, u35, u36, u37, u38, u39, u40, u41, u42, u43, u44, u45, u46, u47, u48, u49, u50, u51, u52, u53, u54, u55, u56, u57, u58, u59, u60, u61, u62, u63, u64, u65, u66, u67, u68, u69, u70, u71, u72, u73, u74, u75, u76, u77, u78, u79, u80, u81, u82, u83, u84, u85, u86, u87, u88, u89, u90, u91, u92, u93, u94, u95, u96, u97, u98, u99, u100, u101, u102, u103, u104, u105, u106, u107, u108, u109, u110, u111, u112, u113, u114, u115, u116, u117, u118, u119, u120, u121, u122, u123, u124, u125, u126, u127, u128, u129, u130, u131, u132, u133, u134, u135, u136, u137, u138, u139, u140, u141, u142, u143, u144, u145, u146, u147, u148, u149, u150, u151, u152, u153, u154, u155, u156, u157, u158, u159, u160, u161, u162, u163, u164, u165, u166, u167, u168, u169, u170, u171], []⟩ wr := by
  have q0 : wr.cell? ⟨B0, 0, none⟩ = some (.map (some (B0 + 1))) := by rw [cell_at HS.out.q]; rfl
  have q1 : wr.cell? ⟨B0, 1, none⟩ = some (.slice none 0 0) := by rw [cell_at HS.out.q]; rfl
  have q2 : wr.cell? ⟨B0, 2, none⟩ = some (.slice none 0 0) := by rw [cell_at HS.out.q]; rfl
  have hL := HL.out
  have HM := hide (model_walk a len cap e k wr (HI.out.below HS.out.bel (by rw [HS.out.b0]; exact Nat.le_refl _)))
  have HD := hide (del_any B0 (B0 + 1) len e k wr hks q0 HS.out.says)
  have n1 := neq23
  have n2 := neq24
  have n3 := neq25
  have n4 := neq32
  have n5 := neq33
  have hz : ((len : Int) == 0) = false := by simp; omega
  conv => arg 2; whnf
  dsimp only
  go_wp2_with (first | (go_at_call 4; refine HM.out.mono ?_; rintro x w1 ⟨rfl, rfl⟩; unfold tri) | (go_at_call 5; refine HD.out.mono ?_; rintro x w1 ⟨rfl, rfl⟩))
  clear q0 q1 q2 hL HM HD HL
  go_loopw [113] (fun i wl => ∃ n : Nat, n ≤ len ∧ i = .int .i64 n ∧ Hid (St B0 w wl len e)) (fun i _ => len - (intOf i).toNat)
  case atStart => exact ⟨0, Nat.zero_le _, rfl, HS⟩
  case round =>
    clear HS
    obtain ⟨n, hn, rfl, HS⟩ := hrel
    by_cases hlt : n < len
    · obtain ⟨g, off, rfl, hcells⟩ := HI.out.2.2.2 h0
      obtain ⟨c0, c1, c2⟩ := hcells n hlt
      have hg : g < B0 := by have := cell_lt c0; rw [HS.out.b0]; exact this
      have d0 := (HS.out.bel.cell (p := ⟨g, off + n * 3, none⟩) hg).trans c0
      have d1 := (HS.out.bel.cell (p := ⟨g, off + n * 3 + 1, none⟩) hg).trans c1
      have d2 := (HS.out.bel.cell (p := ⟨g, off + n * 3 + 2, none⟩) hg).trans c2
      clear c0 c1 c2 hcells
      obtain ⟨o, ho⟩ := last_some (e := e) hlt rfl
      have HW : Hid (Below wr.heap.size wr (wr.alloc (.cells #[.string (e n).key, .int .u64 (e n).cnt, .bool (e n).nul] 30))) := hide ((Below.refl _ _).alloc (Nat.le_refl _) _)
      have HS1 := hide (st_below HS.out HW.out)
      have qA : (wr.alloc (.cells #[.string (e n).key, .int .u64 (e n).cnt, .bool (e n).nul] 30)).cell? ⟨B0, 0, none⟩ = some (.map (some (B0 + 1))) := by rw [cell_at HS1.out.q]; rfl
      obtain ⟨v, hrun, _, hh⟩ := says_look HS1.out.says true (e n).key (HI.out.2.2.1 n hlt)
      have hH := hh o ho
      rw [ho] at hrun
      simp only [if_true, Option.isSome_some] at hrun
      have HM := hide (model_walk (some ⟨g, off, none⟩) len cap e (e n).key _ (HI.out.below HS1.out.bel (by rw [HS.out.b0]; exact Nat.le_refl _)))
      rw [ho] at HM
      clear hh ho
      obtain ⟨d, nl⟩ := o
      cases nl with
      | true =>
        have hv : v = .pointer none := by simpa [HostIs] using hH
        subst hv
        clear hH
        have e1 : tri (some (d, true)) = .tuple #[.int .u64 0, .bool true, .bool true] := rfl
        rw [e1] at HM
        clear e1
        go_wp2_with (go_at_call 4; refine HM.out.mono ?_; rintro x w1 ⟨rfl, rfl⟩)
        go_roundw
        case rel => exact ⟨n + 1, by omega, by go_num, HS1⟩
        case measure => simp [intOf]; omega
      | false =>
        obtain ⟨hb, rfl, hbl⟩ : ∃ hb, v = .pointer (some ⟨hb, 0, none⟩) ∧ (wr.alloc (.cells #[.string (e n).key, .int .u64 (e n).cnt, .bool (e n).nul] 30)).heap[hb]? = some (.cells (host (e n).key d) 35 (0, 0)) := by simpa [HostIs] using hH
        have x0 : (wr.alloc (.cells #[.string (e n).key, .int .u64 (e n).cnt, .bool (e n).nul] 30)).cell? ⟨hb, 0, none⟩ = some (.string (e n).key) := by rw [cell_at hbl]; rfl
        have x1 : (wr.alloc (.cells #[.string (e n).key, .int .u64 (e n).cnt, .bool (e n).nul] 30)).cell? ⟨hb, 1, none⟩ = some (.int .u64 d) := by rw [cell_at hbl]; rfl
        have x2 : (wr.alloc (.cells #[.string (e n).key, .int .u64 (e n).cnt, .bool (e n).nul] 30)).cell? ⟨hb, 2, none⟩ = some (.map none) := by rw [cell_at hbl]; rfl
        have x3 : (wr.alloc (.cells #[.string (e n).key, .int .u64 (e n).cnt, .bool (e n).nul] 30)).cell? ⟨hb, 3, none⟩ = some (.map none) := by rw [cell_at hbl]; rfl
        clear hH hbl
        have e1 : tri (some (d, false)) = .tuple #[.int .u64 d, .bool true, .bool false] := rfl
        rw [e1] at HM
        clear e1
        go_wp2_with (go_at_call 4; refine HM.out.mono ?_; rintro x w1 ⟨rfl, rfl⟩)
        go_quiet (fail)
        go_wp2
        exact ⟨⟨n + 1, by omega, by simp, hide (st_below HS1.out (below_drewN (Below.refl _ _) nq))⟩, by simp [intOf]; omega⟩
    · go_wp2
      exact hQ.out _ _ rfl rfl HS.out.bel

set_option maxRecDepth 100000 in
set_option maxHeartbeats 4000000 in
theorem law_pos (a : Option Addr) (len cap : Nat) (p : Nat) (q : ByteArray) (u : Bool) (w : World) (e : Nat → Ent) (hp : p ≤ 255) (hq : q.size ≤ maxLen) (h : IsEnt w a len cap e) (hlen : len ≤ 4096) (h0 : 0 < len) :
    Calls Yba.prog 3 #[.slice a len cap, .int .u8 (p : Int), .string q, .bool u] w fun x w' => x = .returned (.bool true) ∧ Below w.heap.size w w' := by
  have hmm := @run_makeMap Yba.prog
  have HI := hide h
  clear h
  go_enter Yba.func3, Yba.ntmps3
  go_wp2_with fail
  have HS0 : Hid (St w.heap.size w ((w.alloc (.cells #[.map (some (w.heap.size + 1)), .slice none 0 0, .slice none 0 0] 27)).alloc (.map #[] 0)) 0 e) := hide (by
    have h1 : ((w.alloc (.cells #[.map (some (w.heap.size + 1)), .slice none 0 0, .slice none 0 0] 27)).alloc (.map #[] 0)).heap[w.heap.size]? = some (.cells (que (w.heap.size + 1)) 27 (0, 0)) := by
      rw [Below.heap_alloc _ _ _ (by simp)]; exact heap_alloc_new _ _
    refine ⟨h1, ?_, (((Below.refl _ _).alloc (Nat.le_refl _) _).alloc (by simp) _), rfl⟩
    have := says_made (w.alloc (.cells #[.map (some (w.heap.size + 1)), .slice none 0 0, .slice none 0 0] 27)) e
    simpa using this)
  generalize hB0 : w.heap.size = B0 at HS0 ⊢
  have HB0 := hide hB0
  clear hB0
  rename_i K1 aK1
  have HK := hide aK1
  clear aK1
  go_loopw [35] (fun i wl => ∃ n : Nat, n ≤ len ∧ i = .int .i64 n ∧ Hid (St B0 w wl n e)) (fun i _ => len - (intOf i).toNat)
  case atStart => exact ⟨0, Nat.zero_le _, rfl, HS0⟩
  case round =>
    clear HS0
    obtain ⟨n, hn, rfl, HS⟩ := hrel
    by_cases hlt : n < len
    · obtain ⟨g, off, rfl, hcells⟩ := HI.out.2.2.2 h0
      obtain ⟨c0, c1, c2⟩ := hcells n hlt
      have hg : g < B0 := by have := cell_lt c0; rw [← HB0.out]; exact this
      have d0 := (HS.out.bel.cell (p := ⟨g, off + n * 3, none⟩) hg).trans c0
      have d1 := (HS.out.bel.cell (p := ⟨g, off + n * 3 + 1, none⟩) hg).trans c1
      have d2 := (HS.out.bel.cell (p := ⟨g, off + n * 3 + 2, none⟩) hg).trans c2
      clear c0 c1 c2 hcells
      have q0 : wr.cell? ⟨B0, 0, none⟩ = some (.map (some (B0 + 1))) := by rw [cell_at HS.out.q]; rfl
      have hBs : B0 < wr.heap.size := block_lt HS.out.q
      have qA : ∀ o, (wr.alloc o).cell? ⟨B0, 0, none⟩ = some (.map (some (B0 + 1))) := fun o => ((Below.refl _ _).alloc (Nat.le_refl wr.heap.size) o).cell (p := ⟨B0, 0, none⟩) hBs |>.trans q0
      clear hBs
      cases hN : (e n).nul
      · rw [hN] at d2
        have HW : Hid (Below wr.heap.size wr ((wr.alloc (.cells #[.string (e n).key, .int .u64 (e n).cnt, .bool false] 30)).alloc (.cells (host (e n).key (e n).cnt) 35))) := hide (((Below.refl _ _).alloc (Nat.le_refl _) _).alloc (by simp) _)
        obtain ⟨D, hown, hD, hall⟩ := says_below HS.out.says HW.out
        have HO := hide hown
        have HD := hide hD
        have HA := hide hall
        clear hown hD hall
        go_wp2_with (at_mapUpdate; refine wpList_mapUpdate_own _ rfl _ _ _ 23 rfl 9 31 (string_keyed Yba.underlying9) Yba.underlying23 R0 (B0 + 1) n D rfl HO.out (by unfold maxLen; omega) _ _ _ rfl rfl (WideMaps.keyOf_string_mk Yba.underlying9 (HI.out.2.2.1 n hlt)) _ [] rfl ?_; intro w2 hown2 hgrow2)
        have HS2 : Hid (St B0 w w2 (n + 1) e) := hide (st_step HS.out HW.out hgrow2 (says_put HO.out HD.out HA.out hown2 hgrow2 (by
          unfold HostIs
          rw [hN]
          simp only [Bool.false_eq_true, if_false]
          refine ⟨_, rfl, ?_⟩
          have := heap_alloc_new (wr.alloc (.cells #[.string (e n).key, .int .u64 (e n).cnt, .bool false] 30)) (.cells (host (e n).key (e n).cnt) 35)
          simpa using this)))
        clear hown2 hgrow2
        exact ⟨⟨n + 1, by omega, by simp, HS2⟩, by simp [intOf]; omega⟩
      · rw [hN] at d2
        have HW : Hid (Below wr.heap.size wr (wr.alloc (.cells #[.string (e n).key, .int .u64 (e n).cnt, .bool true] 30))) := hide ((Below.refl _ _).alloc (Nat.le_refl _) _)
        obtain ⟨D, hown, hD, hall⟩ := says_below HS.out.says HW.out
        have HO := hide hown
        have HD := hide hD
        have HA := hide hall
        clear hown hD hall
        go_wp2_with (at_mapUpdate; refine wpList_mapUpdate_own _ rfl _ _ _ 23 rfl 9 31 (string_keyed Yba.underlying9) Yba.underlying23 R0 (B0 + 1) n D rfl HO.out (by unfold maxLen; omega) _ _ _ rfl rfl (WideMaps.keyOf_string_mk Yba.underlying9 (HI.out.2.2.1 n hlt)) _ [] rfl ?_; intro w2 hown2 hgrow2)
        have HS2 : Hid (St B0 w w2 (n + 1) e) := hide (st_step HS.out HW.out hgrow2 (says_put HO.out HD.out HA.out hown2 hgrow2 (by simp [HostIs, hN]; rfl)))
        clear hown2 hgrow2
        exact ⟨⟨n + 1, by omega, by simp, HS2⟩, by simp [intOf]; omega⟩
    · obtain rfl : n = len := by omega
      have aK1 := HK.out
      clear HK
      obtain ⟨k, hk⟩ : ∃ k, k = if u then q else (e (p % n)).key := ⟨_, rfl⟩
      have hks : k.size ≤ maxLen := by
        rw [hk]
        split
        · exact hq
        · exact HI.out.2.2.1 _ (Nat.mod_lt _ h0)
      have q0 : wr.cell? ⟨B0, 0, none⟩ = some (.map (some (B0 + 1))) := by rw [cell_at HS.out.q]; rfl
      have q1 : wr.cell? ⟨B0, 1, none⟩ = some (.slice none 0 0) := by rw [cell_at HS.out.q]; rfl
      have q2 : wr.cell? ⟨B0, 2, none⟩ = some (.slice none 0 0) := by rw [cell_at HS.out.q]; rfl
      obtain ⟨D, hown, _⟩ := HS.out.says
      have hL := fun ty => hown.len Yba.underlying23 ty
      clear hown
      generalize Maps.size D = sz at hL
      have HL := hide hL
      go_upto_region 15 with fail
      rename_i K2 aK2 K3 aK3
      have HK2 := hide aK2
      clear aK2 hL q0 q1 q2
      have hQ : Hid (∀ (a : Act) (w' : World), a.tmps.getD 8 undef = .bool true → a.defers = [] → Below B0 w w' → bodyPost Yba.prog Yba.f3 (fun x w' => x = .returned (.bool true) ∧ Below w.heap.size w w') .ret a w') :=
        hide (fun a w' h1 h2 h3 => bodyPost_ret (v := .bool true) ((results_tmp rfl a.tmps Yba.prog w').trans (by rw [h1])) h2 ⟨rfl, by rw [HB0.out]; exact h3⟩)
      have hnz : ((n : Int) == 0) = false := by simp; omega
      have hn0 : (0 : Int) < (n : Int) := by omega
      cases u
      · simp only [Bool.false_eq_true, if_false] at hk
        have hm : p % n < n := Nat.mod_lt _ h0
        obtain ⟨g, off, rfl, hcells⟩ := HI.out.2.2.2 h0
        have c0 := (hcells _ hm).1
        have hg : g < B0 := by have := cell_lt c0; rw [← HB0.out]; exact this
        have d0 := (HS.out.bel.cell (p := ⟨g, off + p % n * 3, none⟩) hg).trans c0
        clear c0 hcells
        subst hk
        go_wp2
        refine HK2.out _ _ ?_
        exact part17 _ B0 w wr (some ⟨g, off, none⟩) n cap e _ sz hlen h0 hks HI HS HL _ _ _ _ _ _ _ _ _ _ _ _ _ _ _ _ _ _ _ _ _ _ _ _ _ _ _ _ _ _ _ _ _ _ _ _ _ _ _ _ _ _ _ _ _ _ _ _ _ _ _ _ _ _ _ _ _ _ _ _ _ _ _ _ _ _ _ _ _ _ _ _ _ _ _ _ _ _ _ _ _ _ _ _ _ _ _ _ _ _ _ _ _ _ _ _ _ _ _ _ _ _ _ _ _ _ _ _ _ _ _ _ _ _ _ _ _ _ _ _ _ _ _ _ _ _ _ _ _ _ _ _ _ _ _ _ _ _ _ _ _ _ _ _ _ _ _ _ _ _ _ _ _ _ _ _ _ _ _ _ _ _ _ _ _ _ _ _ hQ
      · simp only [if_true] at hk
        subst hk
        go_wp2
        refine HK2.out _ _ ?_
        exact part17 _ B0 w wr a n cap e k sz hlen h0 hks HI HS HL _ _ _ _ _ _ _ _ _ _ _ _ _ _ _ _ _ _ _ _ _ _ _ _ _ _ _ _ _ _ _ _ _ _ _ _ _ _ _ _ _ _ _ _ _ _ _ _ _ _ _ _ _ _ _ _ _ _ _ _ _ _ _ _ _ _ _ _ _ _ _ _ _ _ _ _ _ _ _ _ _ _ _ _ _ _ _ _ _ _ _ _ _ _ _ _ _ _ _ _ _ _ _ _ _ _ _ _ _ _ _ _ _ _ _ _ _ _ _ _ _ _ _ _ _ _ _ _ _ _ _ _ _ _ _ _ _ _ _ _ _ _ _ _ _ _ _ _ _ _ _ _ _ _ _ _ _ _ _ _ _ _ _ _ _ _ _ _ hQ
end Go.Proofs.Ybulkdtco
