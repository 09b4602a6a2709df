import Derived.Test.YbulkdsziPart2
namespace Go.Proofs.Ybulkdszi
open Go.RowKit Go.Shelf Go.MuLone Go.Maps

theorem Yba.info1 : (Yba.prog.info? 1).map (fun i => (i.zero, i.size, i.bytes)) = some (some .nilFunc, 1, 8) := by kernel_rfl

/-- What holds in the first loop: i settlers are registered. -/
structure Reg (B0 : Nat) (w0 wr : World) (T C L i : Nat) (tag : Int) (hs : List Nat) (v lv : Value) : Prop where
  c : wr.heap[C]? = some (.cells (clk 0 v) 51 (0, 0))
  l : wr.heap[L]? = some (.cells #[lv] 37 (0, 0))
  t : wr.heap[T]? = some (.cells #[.int .i64 tag] 3 (0, 0))
  len : hs.length = i
  recs : ∀ j, j < i → Full C L wr (hs[j]?.getD 0) j
  own : wr.ownsRow B0 52 1 v i (((List.range i).map (recOf hs)).map Rec.s |>.map sptr)
  nv : ∀ g, v.ownBlock = some g → ∀ j, j < i → g ≠ hs[j]?.getD 0 + 3
  lo : B0 ≤ C ∧ B0 ≤ L
  hi : B0 = w0.heap.size
  bel : Below B0 w0 wr

theorem reg_new {B0 : Nat} {w0 wr w1 : World} {T C L i : Nat} {tag : Int} {hs : List Nat} {v lv : Value} {D : Nat → Prop} (h : Reg B0 w0 wr T C L i tag hs v lv) (kp : Keeps D wr w1) (hD : ∀ {b : Nat} {cs : Array Value} {t : TypeId}, wr.heap[b]? = some (.cells cs t (0, 0)) → t ≠ 1 → ¬ D b) (hB : ∀ b, D b → B0 ≤ b) : Reg B0 w0 w1 T C L i tag hs v lv := by
  refine ⟨kp.at h.c (hD h.c (by decide)), kp.at h.l (hD h.l (by decide)), kp.at h.t (hD h.t (by decide)), h.len, fun j hj => ?_, owns_keep h.own kp (fun g hg => ?_), h.nv, h.lo, h.hi, below_keep h.bel (Nat.le_of_eq h.hi) kp hB⟩
  · have f := h.recs j hj
    exact ⟨kp.at f.id (hD f.id (by decide)), kp.at f.cb (hD f.cb (by decide)), kp.at f.st (hD f.st (by decide)), kp.at f.sb (hD f.sb (by decide))⟩
  · obtain ⟨c, hc⟩ := own_heap h.own hg
    exact hD hc (by decide)

theorem recOf_snoc {hs : List Nat} {i h : Nat} (hl : hs.length = i) (j : Nat) (hj : j < i) : (hs ++ [h])[j]?.getD 0 = hs[j]?.getD 0 := by
  rw [List.getElem?_append_left (by omega)]
theorem recOf_last {hs : List Nat} {i h : Nat} (hl : hs.length = i) : (hs ++ [h])[i]?.getD 0 = h := by
  rw [List.getElem?_append_right (by omega)]
  simp [hl]

/-- One settler more. -/
theorem reg_step {B0 : Nat} {w0 wr w2 : World} {T C L i : Nat} {tag : Int} {hs : List Nat} {v lv : Value} {g cap2 : Nat} (h : Reg B0 w0 wr T C L i tag hs v lv)
    (m : Moved 0 C (.func (.func 8) #[] #[.pointer (some ⟨L, 0, none⟩), .pointer (some ⟨wr.heap.size, 0, none⟩)]) v i (((List.range i).map (recOf hs)).map Rec.s |>.map sptr) B0 (wr.alloc (.cells #[.int .i64 (i : Int)] 3)) g cap2 w2) :
    Reg B0 w0 w2 T C L (i + 1) tag (hs ++ [wr.heap.size]) (.slice (some ⟨g, 0, none⟩) (i + 1) cap2) lv := by
  obtain ⟨h0, hh⟩ : ∃ h0, h0 = wr.heap.size := ⟨_, rfl⟩
  have hs1 : (wr.alloc (.cells #[.int .i64 (i : Int)] 3)).heap.size = wr.heap.size + 1 := by simp
  have kp0 : Keeps (fun b => b = C ∨ v.ownBlock = some b) wr (wr.alloc (.cells #[.int .i64 (i : Int)] 3)) := (Keeps.refl _ wr).alloc _
  have kp : Keeps (fun b => b = C ∨ v.ownBlock = some b) wr w2 := kp0.trans m.keep
  have hC := block_lt h.c
  have d : ∀ {b : Nat} {cs : Array Value} {t : TypeId}, wr.heap[b]? = some (.cells cs t (0, 0)) → t ≠ 51 → t ≠ 52 → ¬ (b = C ∨ v.ownBlock = some b) := fun hb h1 h2 e => by
    rcases e with e | e
    · rw [e, h.c] at hb
      simp at hb
      exact h1 hb.2.symm
    · exact own_type h.own e hb h2 rfl
  have hid : w2.heap[wr.heap.size]? = some (.cells #[.int .i64 (i : Int)] 3 (0, 0)) := by
    rw [m.keep.block wr.heap.size (by omega) (fun e => by rcases e with e | e; omega; have := (owns_lt h.own e).2; omega)]
    exact heap_alloc_new _ _
  have hcb := m.cb
  have hst := m.st
  have hsb := m.sb
  rw [hs1] at hcb hst hsb
  have hrec : ∀ j, j < i → Full C L w2 (hs[j]?.getD 0) j ∧ hs[j]?.getD 0 + 3 < wr.heap.size := fun j hj => by
    have f := h.recs j hj
    refine ⟨⟨kp.at f.id (d f.id (by decide) (by decide)), kp.at f.cb (d f.cb (by decide) (by decide)), kp.at f.st (d f.st (by decide) (by decide)), kp.at f.sb (fun e => ?_)⟩, block_lt f.sb⟩
    rcases e with e | e
    · have := f.sb; rw [e, h.c] at this; simp at this
    · exact h.nv _ e j hj rfl
  refine ⟨m.c, kp.at h.l (d h.l (by decide) (by decide)), kp.at h.t (d h.t (by decide) (by decide)), by simp [h.len], fun j hj => ?_, ?_, fun g' hg' j hj => ?_, h.lo, h.hi, below_keep h.bel (Nat.le_of_eq h.hi) kp (fun b hb => ?_)⟩
  · rcases Nat.lt_or_ge j i with hj' | hj'
    · rw [recOf_snoc h.len j hj']
      exact (hrec j hj').1
    · obtain rfl : j = i := by omega
      rw [recOf_last h.len]
      exact ⟨hid, hcb, hst, hsb⟩
  · have e1 : (((List.range (i + 1)).map (recOf (hs ++ [wr.heap.size]))).map Rec.s |>.map sptr) = (((List.range i).map (recOf hs)).map Rec.s |>.map sptr) ++ [sptr (wr.heap.size + 2)] := by
      rw [List.range_succ]
      simp only [List.map_append, List.map_map, List.map_cons, List.map_nil]
      congr 1
      · apply List.map_congr_left
        intro j hj
        have hj' : j < i := by simpa using hj
        simp [recOf, recOf_snoc h.len j hj']
      · simp [recOf, recOf_last h.len]
    rw [e1]
    have ho := m.own
    rw [hs1] at ho
    exact ho
  · simp [Value.ownBlock] at hg'
    subst hg'
    rcases m.lies with e | e
    · have hl := (owns_lt h.own e).2
      rcases Nat.lt_or_ge j i with hj' | hj'
      · rw [recOf_snoc h.len j hj']
        exact h.nv _ e j hj'
      · obtain rfl : j = i := by omega
        rw [recOf_last h.len]
        omega
    · rcases Nat.lt_or_ge j i with hj' | hj'
      · rw [recOf_snoc h.len j hj']
        have := (hrec j hj').2
        omega
      · obtain rfl : j = i := by omega
        rw [recOf_last h.len]
        omega
  · rcases hb with rfl | hb
    · exact h.lo.1
    · exact (owns_lt h.own hb).1

/-- The removes' row is not touched by a settler more. -/
theorem reg_rem {B0 : Nat} {w0 wr w2 : World} {T C L i n : Nat} {tag : Int} {hs : List Nat} {v lv f r : Value} {xs ys : List Value} {g cap2 : Nat} {o : Obj} (h : Reg B0 w0 wr T C L i tag hs v lv) (hr : wr.ownsRow B0 1 1 r n ys)
    (m : Moved 0 C f v i xs B0 (wr.alloc o) g cap2 w2) : w2.ownsRow B0 1 1 r n ys := by
  refine owns_keep hr (((Keeps.refl _ wr).alloc o).trans m.keep) (fun g' hg' e => ?_)
  obtain ⟨c, hc⟩ := own_heap hr hg'
  rcases e with e | e
  · rw [e, h.c] at hc
    simp at hc
  · exact own_type h.own e hc (by decide) rfl

theorem core_of {B0 : Nat} {w0 wr : World} {T C L R k rcap : Nat} {tag : Int} {hs : List Nat} {v lv : Value} (h : Reg B0 w0 wr T C L k tag hs v lv) (hr : wr.ownsRow B0 1 1 (.slice (some ⟨R, 0, none⟩) k rcap) k (hs.map remf)) (hk : k ≤ 255) : Core B0 w0 wr T C L R B0 k tag hs v lv := by
  refine ⟨h.c, h.l, h.t, h.len, h.recs, ?_, h.nv, ⟨h.lo.1, h.lo.2, fun g hg => (owns_lt h.own hg).1⟩, ?_, Nat.le_of_eq h.hi, h.bel, hk⟩
  · rcases hr.2 with ⟨h', _⟩ | ⟨g', cap', cur, h', _, hg, _, _, _, ht⟩
    · cases h'
    · cases h'
      refine ⟨cur, hg, fun i hi => ?_⟩
      have hi' : i < hs.length := by rw [h.len]; exact hi
      have e := congrArg (fun l => l[i]?) ht
      simp only [List.getElem?_take, Nat.mul_one, hi, if_true] at e
      rw [← Array.getElem?_toList, e]
      simp [List.getElem?_eq_getElem hi']
  · have := h.bel.size
    have := h.hi
    omega

/-- The world ahead of the first loop. -/
def W00 (tag : Int) (w : World) : World := (((w.alloc (.cells #[.int .i64 tag] 3)).alloc (.cells #[.int .u64 0, .int .i64 0, .pointer none] 36)).alloc (.cells (clk 0 (.slice none 0 0)) 51)).alloc (.cells #[.slice none 0 0] 37)
theorem reg_start {tag : Int} {w w1 : World} (g : (W00 tag w).grownBy w1 none) : Reg w.heap.size w w1 w.heap.size (w.heap.size + 1 + 1) (w.heap.size + 1 + 1 + 1) 0 tag [] (.slice none 0 0) (.slice none 0 0) := by
  have s1 : (w.alloc (.cells #[.int .i64 tag] 3)).heap.size = w.heap.size + 1 := by simp
  have s2 : ((w.alloc (.cells #[.int .i64 tag] 3)).alloc (.cells #[.int .u64 0, .int .i64 0, .pointer none] 36)).heap.size = w.heap.size + 1 + 1 := by simp
  have s3 : (((w.alloc (.cells #[.int .i64 tag] 3)).alloc (.cells #[.int .u64 0, .int .i64 0, .pointer none] 36)).alloc (.cells (clk 0 (.slice none 0 0)) 51)).heap.size = w.heap.size + 1 + 1 + 1 := by simp
  have s4 : (W00 tag w).heap.size = w.heap.size + 4 := by simp [W00]
  have b : Below w.heap.size w (W00 tag w) := (((((Below.refl _ _).alloc (Nat.le_refl _) _).alloc (by simp) _).alloc (by simp; omega) _).alloc (by simp; omega) _)
  refine ⟨?_, ?_, ?_, rfl, fun j hj => by omega, World.ownsRow_nil _ _ _ _, fun g hg => by simp [Value.ownBlock] at hg, ⟨by omega, by omega⟩, rfl, b.grown g (by omega) (fun k hk => by cases hk)⟩
  · rw [g.block _ (by omega) (fun e => by cases e)]
    unfold W00
    rw [Below.heap_alloc _ _ _ (by omega), ← s2]
    exact heap_alloc_new _ _
  · rw [g.block _ (by omega) (fun e => by cases e)]
    unfold W00
    rw [← s3]
    exact heap_alloc_new _ _
  · rw [g.block _ (by omega) (fun e => by cases e)]
    unfold W00
    rw [Below.heap_alloc _ _ _ (by omega), Below.heap_alloc _ _ _ (by omega), Below.heap_alloc _ _ _ (by omega)]
    exact heap_alloc_new _ _

/-- NewManualClock at the zero time. -/
theorem new_any (w : World) : Calls Yba.prog 6 #[.agg #[.int .u64 0, .int .i64 0, .pointer none]] w fun e w' => e = .returned (.pointer (some ⟨w.heap.size + 1, 0, none⟩)) ∧ w' = (w.alloc (.cells #[.int .u64 0, .int .i64 0, .pointer none] 36)).alloc (.cells (clk 0 (.slice none 0 0)) 51) := by
  unfold clk
  go_enter Yba.func6, Yba.ntmps6
  go_wp2
  go_ret
  exact ⟨rfl, rfl⟩

set_option maxHeartbeats 1000000 in
set_option maxRecDepth 100000 in
theorem lawB_big (a0 tag : Int) (a1 : Option Addr) (len1 cap1 : Nat) (w : World) (hbig : len1 ≤ 9223372036854775807) (h : 65536 < len1) :
    Calls Yba.prog 4 #[.int .u8 a0, .slice a1 len1 cap1, .int .i64 tag] w fun e w' => e = .returned (.bool true) ∧ Below w.heap.size w w' := by
  go_enter Yba.func4, Yba.ntmps4
  go_wp2
  go_ret
  exact ⟨rfl, (Below.refl _ _).alloc (Nat.le_refl _) _⟩

set_option maxHeartbeats 4000000 in
set_option maxRecDepth 100000 in
theorem lawB_walk (k : Nat) (tag : Int) (a1 : Option Addr) (len1 cap1 : Nat) (zs : List Int) (w : World) (hk : k ≤ 255) (hlen1 : len1 ≤ 65536) (HD : Hid (IsDrop w.heap.size w a1 len1 zs)) :
    Calls Yba.prog 4 #[.int .u8 (k : Int), .slice a1 len1 cap1, .int .i64 tag] w fun e w' => e = .returned (.bool true) ∧ Below w.heap.size w w' := by
  obtain ⟨i0, hi, hz0, hz1, hz2⟩ := info_parts Yba.info1
  go_enter Yba.func4, Yba.ntmps4
  have hl2 : ¬ (65536 : Int) < (len1 : Int) := by omega
  have hld : decide ((65536 : Int) < (len1 : Int)) = false := by simp [hl2]
  go_wp2_with (first | (go_at_call 6; refine (new_any _).mono ?_; rintro e w' ⟨rfl, rfl⟩) | (at_make; refine wpList_make_own _ rfl _ _ 38 rfl w.heap.size 1 i0 .nilFunc 1 Yba.underlying38 hi hz0 hz1 _ _ _ k rfl rfl rfl (by rw [hz2]; omega) (by unfold maxLen; omega) (by simp; omega) ?_; intro w1 hown1 hgrow1))
  have HR1 : Hid (Reg w.heap.size w w1 w.heap.size (w.heap.size + 1 + 1) (w.heap.size + 1 + 1 + 1) 0 tag [] (.slice none 0 0) (.slice none 0 0)) := hide (reg_start hgrow1)
  have e4 : (((((w.alloc (.cells #[.int .i64 tag] 3)).alloc (.cells #[.int .u64 0, .int .i64 0, .pointer none] 36)).alloc (.cells (clk 0 (.slice none 0 0)) 51)).alloc (.cells #[.slice none 0 0] 37))).heap.size = w.heap.size + 1 + 1 + 1 + 1 := by simp
  have HM1 : Hid (w1.ownsRow w.heap.size 1 1 (.slice (some ⟨w.heap.size + 1 + 1 + 1 + 1, 0, none⟩) 0 k) 0 (([] : List Nat).map remf)) := hide (by rw [← e4]; exact hown1)
  clear hown1 hgrow1 e4
  rename_i Q1 K1 aK1
  have HK := hide aK1
  clear aK1
  generalize hB0 : w.heap.size = B0 at HR1 HM1 HD ⊢
  have HB0 := hide hB0
  clear hB0
  have hQ : Hid (∀ (a : Act) (w' : World), a.tmps.getD 6 undef = .bool true → a.defers = [] → Below B0 w w' → Q1 .ret a w') :=
    hide (fun a w' h1 h2 h3 => bodyPost_ret (v := .bool true) ((results_tmp rfl a.tmps Yba.prog w').trans (by rw [h1])) h2 ⟨rfl, by rw [HB0.out]; exact h3⟩)
  go_loopw [10, 11] (fun s i wl => ∃ n : Nat, n ≤ k ∧ i = .int .i64 n ∧ s = .slice (some ⟨B0 + 1 + 1 + 1 + 1, 0, none⟩) n k ∧ ∃ hs v, Hid (Reg B0 w wl B0 (B0 + 1 + 1) (B0 + 1 + 1 + 1) n tag hs v (.slice none 0 0)) ∧ Hid (wl.ownsRow B0 1 1 (.slice (some ⟨B0 + 1 + 1 + 1 + 1, 0, none⟩) n k) n (hs.map remf))) (fun _ i _ => k - (intOf i).toNat)
  case atStart => exact ⟨0, Nat.zero_le _, rfl, rfl, [], _, HR1, HM1⟩
  case round =>
    clear HR1 HM1
    obtain ⟨n, hn, rfl, rfl, hs, v, HR, HM⟩ := hrel
    by_cases hlt : n < k
    · go_wp2_with fail
      have hC1 : (wr.alloc (.cells #[.int .i64 (n : Int)] 3)).heap[B0 + 1 + 1]? = some (.cells (clk 0 v) 51 (0, 0)) := (Below.heap_alloc _ _ _ (block_lt HR.out.c)).trans HR.out.c
      have ho1 := owns_keep HR.out.own ((Keeps.refl (fun _ => False) wr).alloc (.cells #[.int .i64 (n : Int)] 3)) (fun _ _ h => h)
      have hvC : v.ownBlock ≠ some (B0 + 1 + 1) := fun e => own_type HR.out.own e HR.out.c (by decide) rfl
      refine (onMove_any (B0 + 1 + 1) (.func 8) #[.pointer (some ⟨B0 + 1 + 1 + 1, 0, none⟩), .pointer (some ⟨wr.heap.size, 0, none⟩)] v n _ B0 _ hC1 ho1 hvC (by have := block_lt HR.out.c; simp; omega) (by omega)).mono ?_
      rintro e w2 ⟨rfl, g, cap2, hm⟩
      clear hC1 ho1 hvC
      have HR2 := hide (reg_step HR.out hm)
      have HM2 := hide (reg_rem HR.out HM.out hm)
      have hsz : (wr.alloc (.cells #[.int .i64 (n : Int)] 3)).heap.size = wr.heap.size + 1 := by simp
      rw [hsz]
      clear hm hsz HR HM
      generalize wr.heap.size = h at HR2 HM2 ⊢
      generalize (Value.slice (some ⟨g, 0, none⟩) (n + 1) cap2) = v2 at HR2
      go_wp2_with (at_builtin; refine wpList_append_fits _ rfl _ _ 38 rfl B0 1 i0 1 Yba.underlying38 hi hz1 (B0 + 1 + 1 + 1 + 1) n k _ rfl (HM2.out.alloc _) ⟨w2.heap.size, 0, none⟩ 1 1 [remf h] rfl rfl (cell_one_new _ _ _) (fun u hu => by simp at hu; subst hu; rfl) (by omega) ?_)
      intro w3 hown3 hgrow3
      have HR3 := hide (reg_new HR2.out (((Keeps.refl (· = B0 + 1 + 1 + 1 + 1) w2).alloc _).grown hgrow3 (fun _ _ e => by cases e; rfl)) (fun hb ht e => own_type HM2.out (g := B0 + 1 + 1 + 1 + 1) rfl hb ht e.symm) (fun b e => by omega))
      have HM3 := hide hown3
      clear HR2 HM2 hown3 hgrow3
      go_wp2
      refine ⟨⟨n + 1, by omega, by simp, rfl, hs ++ [h], v2, HR3, ?_⟩, by simp [intOf]; omega⟩
      rw [List.map_append]
      exact HM3
    · obtain rfl : n = k := by omega
      go_wp2
      refine HK.out _ _ ?_
      exact part2 Q1 B0 w wr B0 (B0 + 1 + 1) (B0 + 1 + 1 + 1) (B0 + 1 + 1 + 1 + 1) B0 n n len1 cap1 a1 zs tag hs v (.slice none 0 0) (hide (core_of HR.out HM.out hk)) (hide HR.out.own) HD hlen1 _ _ _ _ _ _ _ _ _ _ _ _ _ _ _ _ _ _ _ _ _ _ _ _ _ _ _ _ _ _ _ _ _ _ _ _ _ _ _ _ _ _ _ _ _ _ _ _ _ _ _ _ _ _ _ _ _ _ _ _ _ _ _ _ _ _ _ _ _ _ _ _ _ _ _ _ _ _ _ _ _ _ _ _ _ _ _ _ _ _ _ _ _ _ _ _ _ _ _ _ _ _ _ _ _ _ _ _ _ _ _ _ _ _ _ _ _ _ _ _ _ _ _ _ _ _ _ _ _ _ _ _ _ _ _ _ _ _ _ _ _ _ _ _ _ _ _ _ _ _ _ _ _ _ _ _ _ _ _ _ _ _ _ _ _ _ _ _ _ _ _ _ _ _ _ _ _ _ _ _ _ _ _ _ _ _ _ _ _ _ _ _ _ _ _ _ _ _ _ _ _ _ _ _ _ _ _ _ _ _ hQ
end Go.Proofs.Ybulkdszi
