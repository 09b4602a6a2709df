import Derived.Test.YbulkdsziPart3
namespace Go.Proofs.Ybulkdszi
open Go.RowKit Go.Shelf Go.MuLone Go.Maps

/-! ### Plain: what a removal does to the list -/
theorem rem_filter {ps : List Nat} {s : Nat} (h : ps.Nodup) : rem ps s = ps.filter (fun p => p != s) := by
  by_cases hm : s ∈ ps
  · obtain ⟨A, B, rfl⟩ := List.append_of_mem hm
    have h1 := List.nodup_append.1 h
    have hA : s ∉ A := fun x => h1.2.2 s x s (by simp) rfl
    have hB : s ∉ B := (List.nodup_cons.1 h1.2.1).1
    rw [rem, if_pos hm, pos_split hA, List.filter_append, List.filter_cons]
    have e1 : A.filter (fun p => p != s) = A := List.filter_eq_self.2 (fun a ha => by simp; intro e; exact hA (e ▸ ha))
    have e2 : B.filter (fun p => p != s) = B := List.filter_eq_self.2 (fun a ha => by simp; intro e; exact hB (e ▸ ha))
    simp [e1, e2]
  · rw [rem, if_neg hm]
    exact (List.filter_eq_self.2 (fun a ha => by simp; intro e; exact hm (e ▸ ha))).symm
theorem alive_set {gs : List Bool} {k j : Nat} (hl : gs.length = k) (hj : j < k) : alive (gs.set j true) k = (alive gs k).filter (fun i => i != j) := by
  unfold alive
  rw [List.filter_filter]
  apply List.filter_congr
  intro i hi
  have hi' : i < k := by simpa using hi
  by_cases e : i = j
  · subst e
    simp [live, hl, hj]
  · have e' : ¬ j = i := fun x => e x.symm
    simp [live, e', e]
theorem alive_nodup (gs : List Bool) (k : Nat) : (alive gs k).Nodup := List.Nodup.sublist List.filter_sublist List.nodup_range
theorem nodup_map {l : List Nat} {f : Nat → Nat} (h : l.Nodup) (hf : ∀ a ∈ l, ∀ b ∈ l, f a = f b → a = b) : (l.map f).Nodup := by
  induction l with
  | nil => simp
  | cons a l ih =>
    have h' := List.nodup_cons.1 h
    rw [List.map_cons, List.nodup_cons]
    refine ⟨fun hm => ?_, ih h'.2 (fun x hx y hy => hf x (by simp [hx]) y (by simp [hy]))⟩
    obtain ⟨b, hb, e⟩ := List.mem_map.1 hm
    exact h'.1 (hf b (by simp [hb]) a (by simp) e ▸ hb)
theorem rem_alive {gs : List Bool} {k j : Nat} {f : Nat → Nat} (hl : gs.length = k) (hj : j < k) (hf : ∀ a, a < k → ∀ b, b < k → f a = f b → a = b) : rem ((alive gs k).map f) (f j) = (alive (gs.set j true) k).map f := by
  rw [rem_filter (nodup_map (alive_nodup gs k) (fun a ha b hb => hf a (alive_lt ha) b (alive_lt hb))), alive_set hl hj, List.filter_map]
  congr 1
  apply List.filter_congr
  intro i hi
  have hi' := alive_lt hi
  by_cases e : i = j
  · simp [e]
  · have h1 : (f i != f j) = true := by rw [bne_iff_ne]; exact fun x => e (hf i hi' j hj x)
    have h2 : (i != j) = true := by rw [bne_iff_ne]; exact e
    show (f i != f j) = (i != j)
    rw [h1, h2]

/-- The remove function of the record at h. -/
def remf (h : Nat) : Value := .func (.func 18) #[] #[.pointer (some ⟨h + 1, 0, none⟩), .pointer (some ⟨h + 3, 0, none⟩)]
/-- What the world says of record i whole. -/
structure Full (C L : Nat) (w : World) (h : Nat) (i : Nat) : Prop where
  id : w.heap[h]? = some (.cells #[.int .i64 (i : Int)] 3 (0, 0))
  cb : w.heap[h + 1]? = some (.cells #[.pointer (some ⟨C, 0, none⟩)] 31 (0, 0))
  st : w.heap[h + 2]? = some (.cells #[.func (.func 8) #[] #[.pointer (some ⟨L, 0, none⟩), .pointer (some ⟨h, 0, none⟩)]] 54 (0, 0))
  sb : w.heap[h + 3]? = some (.cells #[.pointer (some ⟨h + 2, 0, none⟩)] 52 (0, 0))

/-- What holds all through: 'hs' where the records lie; 'v' the clock's settlers. -/
structure Core (B0 : Nat) (w0 wr : World) (T C L R base k : Nat) (tag : Int) (hs : List Nat) (v lv : Value) : Prop where
  c : wr.heap[C]? = some (.cells (clk 0 v) 51 (0, 0))
  l : wr.heap[L]? = some (.cells #[lv] 37 (0, 0))
  t : wr.heap[T]? = some (.cells #[.int .i64 tag] 3 (0, 0))
  len : hs.length = k
  recs : ∀ i, i < k → Full C L wr (hs[i]?.getD 0) i
  rm : ∃ cur, wr.heap[R]? = some (.cells cur 1 (0, 0)) ∧ ∀ i, i < k → cur[i]? = some (remf (hs[i]?.getD 0))
  nv : ∀ g, v.ownBlock = some g → ∀ i, i < k → g ≠ hs[i]?.getD 0 + 3
  lo : B0 ≤ C ∧ B0 ≤ L ∧ ∀ g, v.ownBlock = some g → B0 ≤ g
  bs : base ≤ wr.heap.size
  hi : B0 ≤ w0.heap.size
  bel : Below B0 w0 wr
  small : k ≤ 255

theorem own_type {w : World} {base : Nat} {e : TypeId} {v : Value} {n : Nat} {xs : List Value} (h : w.ownsRow base e 1 v n xs) {g : Nat} (hg : v.ownBlock = some g) {cs : Array Value} {t : TypeId} {fr : Nat × Nat} {b : Nat} (hb : w.heap[b]? = some (.cells cs t fr)) (ht : t ≠ e) : g ≠ b := by
  rcases h.2 with ⟨rfl, _⟩ | ⟨g', cap, cur, rfl, _, hgg, _⟩
  · simp [Value.ownBlock] at hg
  · simp [Value.ownBlock] at hg
    subst hg
    intro x
    subst x
    rw [hgg] at hb
    simp at hb
    exact ht hb.2.1.symm

theorem own_heap {w : World} {base : Nat} {e : TypeId} {v : Value} {n : Nat} {xs : List Value} (h : w.ownsRow base e 1 v n xs) {g : Nat} (hg : v.ownBlock = some g) : ∃ c, w.heap[g]? = some (.cells c e (0, 0)) := by
  rcases h.2 with ⟨rfl, _⟩ | ⟨g', cap, cur, rfl, _, hgg, _⟩
  · simp [Value.ownBlock] at hg
  · simp [Value.ownBlock] at hg
    subst hg
    exact ⟨_, hgg⟩
/-- .. behind a step that turns the clock and the settlers' row alone. -/
theorem core_keep {B0 : Nat} {w0 wr w1 : World} {T C L R base k : Nat} {tag : Int} {hs : List Nat} {v v1 lv : Value} {n : Nat} {xs : List Value} (h : Core B0 w0 wr T C L R base k tag hs v lv) (hown : wr.ownsRow base 52 1 v n xs) (kp : Keeps (fun b => b = C ∨ v.ownBlock = some b) wr w1)
    (hc : w1.heap[C]? = some (.cells (clk 0 v1) 51 (0, 0))) (hb : v1.ownBlock = v.ownBlock) : Core B0 w0 w1 T C L R base k tag hs v1 lv := by
  have d : ∀ {b : Nat} {cs : Array Value} {t : TypeId}, wr.heap[b]? = some (.cells cs t (0, 0)) → t ≠ 51 → t ≠ 52 → ¬ (b = C ∨ v.ownBlock = some b) := fun hb h1 h2 e => by
    rcases e with e | e
    · rw [e, h.c] at hb
      simp at hb
      exact h1 hb.2.symm
    · exact own_type hown e hb h2 rfl
  refine ⟨hc, kp.at h.l (d h.l (by decide) (by decide)), kp.at h.t (d h.t (by decide) (by decide)), h.len, fun i hi => ?_, ?_, fun g hg => h.nv g (hb ▸ hg), ⟨h.lo.1, h.lo.2.1, fun g hg => h.lo.2.2 g (hb ▸ hg)⟩, Nat.le_trans h.bs kp.size, h.hi, below_keep h.bel h.hi kp (fun g hg => by rcases hg with rfl | hg; exact h.lo.1; exact h.lo.2.2 g hg), h.small⟩
  · have f := h.recs i hi
    refine ⟨kp.at f.id (d f.id (by decide) (by decide)), kp.at f.cb (d f.cb (by decide) (by decide)), kp.at f.st (d f.st (by decide) (by decide)), kp.at f.sb (fun e => ?_)⟩
    rcases e with e | e
    · have := f.sb; rw [e, h.c] at this; simp at this
    · exact h.nv _ e i hi rfl
  · obtain ⟨cur, h1, h2⟩ := h.rm
    exact ⟨cur, kp.at h1 (d h1 (by decide) (by decide)), h2⟩
/-- .. behind a store into a row of bools. -/
theorem core_far {B0 : Nat} {w0 wr w1 : World} {T C L R base k G : Nat} {tag : Int} {hs : List Nat} {v lv : Value} {cur0 : Array Value} (h : Core B0 w0 wr T C L R base k tag hs v lv) (hG : wr.heap[G]? = some (.cells cur0 4 (0, 0))) (hGB : B0 ≤ G) (kp : Keeps (· = G) wr w1) : Core B0 w0 w1 T C L R base k tag hs v lv := by
  have d : ∀ {b : Nat} {cs : Array Value} {t : TypeId}, wr.heap[b]? = some (.cells cs t (0, 0)) → t ≠ 4 → b ≠ G := fun hb h1 e => by
    rw [e, hG] at hb
    simp at hb
    exact h1 hb.2.symm
  refine ⟨kp.at h.c (d h.c (by decide)), kp.at h.l (d h.l (by decide)), kp.at h.t (d h.t (by decide)), h.len, fun i hi => ?_, ?_, h.nv, h.lo, Nat.le_trans h.bs kp.size, h.hi, below_keep h.bel h.hi kp (fun g hg => by rw [hg]; exact hGB), h.small⟩
  · have f := h.recs i hi
    exact ⟨kp.at f.id (d f.id (by decide)), kp.at f.cb (d f.cb (by decide)), kp.at f.st (d f.st (by decide)), kp.at f.sb (d f.sb (by decide))⟩
  · obtain ⟨cur, h1, h2⟩ := h.rm
    exact ⟨cur, kp.at h1 (d h1 (by decide)), h2⟩
/-- .. behind new blocks. -/
theorem core_new {B0 : Nat} {w0 wr w1 : World} {T C L R base k : Nat} {tag : Int} {hs : List Nat} {v lv : Value} (h : Core B0 w0 wr T C L R base k tag hs v lv) (kp : Keeps (fun _ => False) wr w1) : Core B0 w0 w1 T C L R base k tag hs v lv := by
  refine ⟨kp.at h.c (fun x => x), kp.at h.l (fun x => x), kp.at h.t (fun x => x), h.len, fun i hi => ?_, ?_, h.nv, h.lo, Nat.le_trans h.bs kp.size, h.hi, below_keep h.bel h.hi kp (fun _ x => x.elim), h.small⟩
  · have f := h.recs i hi
    exact ⟨kp.at f.id (fun x => x), kp.at f.cb (fun x => x), kp.at f.st (fun x => x), kp.at f.sb (fun x => x)⟩
  · obtain ⟨cur, h1, h2⟩ := h.rm
    exact ⟨cur, kp.at h1 (fun x => x), h2⟩
theorem core_inj {B0 : Nat} {w0 wr : World} {T C L R base k : Nat} {tag : Int} {hs : List Nat} {v lv : Value} (h : Core B0 w0 wr T C L R base k tag hs v lv) : ∀ a, a < k → ∀ b, b < k → (recOf hs a).s = (recOf hs b).s → a = b := by
  intro a ha b hb e
  have e' : hs[a]?.getD 0 = hs[b]?.getD 0 := by simpa [recOf] using e
  have h1 := (h.recs a ha).id
  rw [e', (h.recs b hb).id] at h1
  simp at h1
  omega

theorem at3 {B0 : Nat} {w0 wr : World} {T C L R G base gb k : Nat} {tag : Int} {hs : List Nat} {gs : List Bool} {v lv : Value} (h : Core B0 w0 wr T C L R base k tag hs v lv) (hown : wr.ownsRow base 52 1 v (alive gs k).length ((((alive gs k).map (recOf hs)).map Rec.s).map sptr)) (hg : wr.ownsRow gb 4 1 (.slice (some ⟨G, 0, none⟩) k k) k (gs.map Value.bool)) :
    At3 B0 w0 wr T C L G base gb k tag hs gs v lv :=
  ⟨h.c, h.l, h.t, hown, hg, fun g hv => ⟨own_type hown hv h.c (by decide), own_type hown hv h.l (by decide), own_type hown hv h.t (by decide), fun i hi => own_type hown hv (h.recs i hi).st (by decide)⟩, fun i hi => ⟨(h.recs i hi).st, (h.recs i hi).id⟩, h.lo, h.bs, h.hi, h.bel, h.small⟩

theorem removed_step {B0 : Nat} {w0 wr w3 : World} {T C L R base k j : Nat} {tag : Int} {hs : List Nat} {gs : List Bool} {v v3 lv : Value} (h : Core B0 w0 wr T C L R base k tag hs v lv) (hown : wr.ownsRow base 52 1 v (alive gs k).length ((((alive gs k).map (recOf hs)).map Rec.s).map sptr))
    (hl : gs.length = k) (hj : j < k) (r : Removed C v (rem (((alive gs k).map (recOf hs)).map Rec.s) (hs[j]?.getD 0 + 2)) base 0 v3 wr w3) :
    Core B0 w0 w3 T C L R base k tag hs v3 lv ∧ w3.ownsRow base 52 1 v3 (alive (gs.set j true) k).length ((((alive (gs.set j true) k).map (recOf hs)).map Rec.s).map sptr) := by
  refine ⟨core_keep h hown r.keep r.c r.blk, ?_⟩
  have e : rem (((alive gs k).map (recOf hs)).map Rec.s) (hs[j]?.getD 0 + 2) = ((alive (gs.set j true) k).map (recOf hs)).map Rec.s := by
    have h1 := rem_alive (f := fun i => (recOf hs i).s) hl hj (core_inj h)
    rw [List.map_map, List.map_map]
    exact h1
  have h2 := r.own
  rw [e] at h2
  simpa using h2
theorem made_bools (k : Nat) : (madeCells (Value.bool false).cells (k * 1)).toList = (List.replicate k false).map Value.bool := by
  apply List.ext_getElem (by simp [madeCells])
  intro i h1 h2
  simp [madeCells, Value.cells, Nat.mod_one]
theorem alive_start (k : Nat) : alive (List.replicate k false) k = List.range k := by
  unfold alive
  apply List.filter_eq_self.2
  intro i hi
  have : i < k := by simpa using hi
  simp [live, this]
theorem Yba.info4 : (Yba.prog.info? 4).map (fun i => (i.zero, i.size, i.bytes)) = some (some (.bool false), 1, 1) := by kernel_rfl
/-- What the second part is told of 'drop'. -/
def IsDrop (B0 : Nat) (w : World) (a : Option Addr) (len : Nat) (zs : List Int) : Prop :=
  len ≤ zs.length ∧ (∀ n ∈ zs, 0 ≤ n ∧ n ≤ 255) ∧ (0 < len → ∃ b off, a = some ⟨b, off, none⟩ ∧ b < B0 ∧ ∀ j, j < len → w.cell? ⟨b, off + j, none⟩ = some (.int .u8 (zs.getD j 0)))

set_option maxHeartbeats 4000000 in
set_option maxRecDepth 100000 in
theorem part2 (Q0 : Exit → Act → World → Prop) (B0 : Nat) (w0 ws : World) (T C L R base k rcap len1 cap1 : Nat) (a1 : Option Addr) (zs : List Int) (tag : Int) (hs : List Nat) (v lv : Value) (H : Hid (Core B0 w0 ws T C L R base k tag hs v lv)) (HO : Hid (ws.ownsRow base 52 1 v k (((List.range k).map (recOf hs)).map Rec.s |>.map sptr)))
    (HD : Hid (IsDrop B0 w0 a1 len1 zs)) (hlen1 : len1 ≤ 65536) (u0 u2 u3 u4 u6 u11 u12 u13 u14 u15 u16 u17 u18 u19 u20 u21 u22 u23 u24 u25 u26 u27 u28 u29 u30 u31 u32 u33 u34 u35 u36 u37 u38 u39 u40 u41 u42 u43 u44 u45 u46 u47 u48 u49 u50 u51 u52 u53 u54 u55 u56 u57 u58 u59 u60 u61 u62 u63 u64 u65 u66 u67 u68 u69 u70 u71 u72 u73 u74 u75 u76 u77 u78 u79 u80 u81 u82 u83 u84 u85 u86 u87 u88 u89 u90 u91 u92 u93 u94 u95 u96 u97 u98 u99 u100 u101 u102 u103 u104 u105 u106 u107 u108 u109 u110 u111 u112 u113 u114 u115 u116 u117 u118 u119 u120 u121 u122 u123 u124 u125 u126 u127 u128 u129 u130 u131 u132 u133 u134 u135 u136 u137 u138 u139 u140 u141 u142 u143 u144 u145 u146 u147 u148 u149 u150 u151 u152 u153 u154 u155 u156 u157 u158 u159 u160 u161 u162 u163 u164 u165 u166 u167 u168 u169 u170 u171 u172 u173 u174 u175 u176 u177 u178 u179 u180 u181 u182 u183 u184 u185 u186 u187 u188 u189 u190 u191 u192 u193 u194 u195 u196 u197 u198 u199 u200 u201 u202 u203 u204 u205 u206 u207 u208 u209 u210 u211 u212 u213 u214 u215 : Value)
    (hQ : Hid (∀ (a : Act) (w' : World), a.tmps.getD 6 undef = .bool true → a.defers = [] → Below B0 w0 w' → Q0 .ret a w')) :
    Code.wp Yba.prog ((Yba.f4.body.bind (fromRegion 12)).getD .skip) Q0 ⟨#[u0, .slice a1 len1 cap1, u2, u3, u4, .pointer (some ⟨T, 0, none⟩), u6, .pointer (some ⟨C, 0, none⟩), .pointer (some ⟨L, 0, none⟩), .int .i64 (k : Int), .slice (some ⟨R, 0, none⟩) k rcap, u11, u12, u13, u14, u15, u16, u17, u18, u19, u20, u21, u22, u23, u24, u25, u26, u27, u28, u29, u30, u31, u32, u33, u34, u35, u36, u37, u38, u39, u40, u41, u42, u43, u44, u45, u46, u47, u48, u49, u50, u51, u52, u53, u54, u55, u56, u57, u58, u59, u60, u61, u62, u63, u64, u65, u66, u67, u68, u69, u70, u71, u72, u73, u74, u75, u76, u77, u78, u79, u80, u81, u82, u83, u84, u85, u86, u87, u88, u89, u90, u91, u92, u93, u94, u95, u96, u97, u98, u99, u100, u101, u102, u103, u104, u105, u106, u107, u108, u109, u110, u111, u112, u113, u114, u115, u116, u117, u118, u119, u120, u121, u122, u123, u124, u125, u126, u127, u128, u129, u130, u131, u132, u133, u134, u135, u136, u137, u138, u139, u140, u141, u142, u143, u144, u145, u146, u147, u148, u149, u150, u151, u152, u153, u154, u155, u156, u157, u158, u159, u160, u161, u162, u163, u164, u165, u166, u167, u168, u169, u170, u171, u172, u173, u174, u175, u176, u177, u178, u179, u180, u181, u182, u183, u184, u185, u186, u187, u188, u189, u190, u191, u192, u193, u194, u195, u196, u197, u198, u199, u200, u201, u202, u203, u204, u205, u206, u207, u208, u209, u210, u211, u212, u213, u214, u215], []⟩ ws := by
  conv => arg 2; whnf
  obtain ⟨i0, hi, hz0, hz1, hz2⟩ := info_parts Yba.info4
  have hsm := H.out.small
  dsimp only
  go_upto_region 13 with (at_make; refine wpList_make_full _ rfl _ _ 40 rfl ws.heap.size 4 i0 (.bool false) 1 Yba.underlying40 hi hz0 hz1 _ _ _ _ k rfl rfl rfl rfl (by rw [hz2]; omega) (by unfold maxLen; omega) (Nat.le_refl _) ?_; intro w1 hown1 hgrow1)
  rename_i K1 aK1 K0 aK0
  have HK := hide aK1
  clear aK1
  have HG1 : Hid (w1.ownsRow ws.heap.size 4 1 (.slice (some ⟨ws.heap.size, 0, none⟩) k k) k ((List.replicate k false).map Value.bool)) := by
    have e : (madeCells (Value.bool false).cells (k * 1)).toList = (List.replicate k false).map Value.bool := made_bools k
    rw [e] at hown1
    exact hide hown1
  have kp1 : Keeps (fun _ => False) ws w1 := (Keeps.refl _ ws).grown hgrow1 (fun _ _ e => by cases e)
  have HC1 := hide (core_new H.out kp1)
  have HO1 : Hid (w1.ownsRow base 52 1 v (alive (List.replicate k false) k).length ((((alive (List.replicate k false) k).map (recOf hs)).map Rec.s).map sptr)) := by
    rw [alive_start, List.length_range]
    exact hide (owns_keep HO.out kp1 (fun _ _ x => x))
  have HGB : Hid (B0 ≤ ws.heap.size) := hide (Nat.le_trans H.out.hi H.out.bel.size)
  clear hown1 hgrow1 kp1 H HO hi hz0 hz1 hz2
  generalize ws.heap.size = G at HG1 HGB ⊢
  generalize hgs : List.replicate k false = gs0 at HG1 HO1
  have HGS := hide hgs
  clear hgs HGS
  by_cases hk0 : k = 0
  · have hk0' : ((0 : Int) < (k : Int)) = False := by simp [hk0]
    go_wp2
    refine HK.out _ _ ?_
    exact part3 Q0 B0 w0 w1 T C L G base G k tag hs gs0 v lv (hide (at3 HC1.out HO1.out HG1.out)) _ _ _ _ _ _ _ _ _ _ _ _ _ _ _ _ _ _ _ _ _ _ _ _ _ _ _ _ _ _ _ _ _ _ _ _ _ _ _ _ _ _ _ _ _ _ _ _ _ _ _ _ _ _ _ _ _ _ _ _ _ _ _ _ _ _ _ _ _ _ _ _ _ _ _ _ _ _ _ _ _ _ _ _ _ _ _ _ _ _ _ _ _ _ _ _ _ _ _ _ _ _ _ _ _ _ _ _ _ _ _ _ _ _ _ _ _ _ _ _ _ _ _ _ _ _ _ _ _ _ _ _ _ _ _ _ _ _ _ _ _ _ _ _ _ _ _ _ _ _ _ _ _ _ _ _ _ _ _ _ _ _ _ _ _ _ _ _ _ _ _ _ _ _ _ _ _ _ _ _ _ _ _ _ _ _ _ _ _ _ _ _ _ _ _ _ _ _ _ _ _ _ _ _ _ _ _ _ _ _ _ hQ
  · have hkp : (0 : Int) < (k : Int) := by omega
    have hkn : 0 < k := by omega
    have hkd : decide (0 < k) = true := by simp [hkn]
    go_wp2_with fail
    go_loopw [53] (fun i wl => ∃ m : Nat, m ≤ len1 ∧ i = .int .i64 m ∧ ∃ gs v, Hid (Core B0 w0 wl T C L R base k tag hs v lv) ∧ Hid (wl.ownsRow base 52 1 v (alive gs k).length ((((alive gs k).map (recOf hs)).map Rec.s).map sptr)) ∧ Hid (wl.ownsRow G 4 1 (.slice (some ⟨G, 0, none⟩) k k) k (gs.map Value.bool))) (fun i _ => len1 - (intOf i).toNat)
    case atStart => exact ⟨0, Nat.zero_le _, rfl, gs0, v, HC1, HO1, HG1⟩
    case round =>
      clear HC1 HO1 HG1
      obtain ⟨m, hm, rfl, gs, v2, HC2, HO2, HG2⟩ := hrel
      by_cases hlt : m < len1
      · obtain ⟨b, off, rfl, hb, hcells⟩ := HD.out.2.2 (by omega)
        obtain ⟨d, hd⟩ : ∃ d, d = zs.getD m 0 := ⟨_, rfl⟩
        have hdb : 0 ≤ d ∧ d ≤ 255 := by
          have hml : m < zs.length := by have := HD.out.1; omega
          have := HD.out.2.1 zs[m] (List.getElem_mem hml)
          rw [hd]
          simpa [List.getD, List.getElem?_eq_getElem hml] using this
        have cd : wr.cell? ⟨b, off + m, none⟩ = some (.int .u8 d) := by rw [HC2.out.bel.cell (by exact hb), hcells m hlt, hd]
        clear hcells hd
        have hd0 := hdb.1
        have hd1 := hdb.2
        have hj0 : 0 ≤ d % (k : Int) := Int.emod_nonneg _ (by omega)
        have hj1 : d % (k : Int) < (k : Int) := Int.emod_lt_of_pos _ hkp
        have hjj : 0 ≤ d % (k : Int) ∧ d % (k : Int) < (k : Int) := ⟨hj0, hj1⟩
        have hjk : (d % (k : Int)).toNat < k := by omega
        obtain ⟨cur, hcur, hcurj⟩ := HC2.out.rm
        have cr : wr.cell? ⟨R, (d % (k : Int)).toNat, none⟩ = some (remf (hs[(d % (k : Int)).toNat]?.getD 0)) := by rw [cell_at hcur]; exact hcurj _ hjk
        unfold remf at cr
        clear hcur hcurj
        obtain ⟨j, hje⟩ : ∃ j : Nat, (d % (k : Int)).toNat = j := ⟨_, rfl⟩
        have HJE := hide hje
        rw [hje] at cr hjk
        clear hje
        have hgl : gs.length = k := by have := HG2.out.1; simpa using this
        have HGL := hide hgl
        clear hgl
        have cr' : wr.cell? ⟨R, (d % (k : Int)).toNat, none⟩ = some (.func (.func 18) #[] #[.pointer (some ⟨hs[j]?.getD 0 + 1, 0, none⟩), .pointer (some ⟨hs[j]?.getD 0 + 3, 0, none⟩)]) := by rw [HJE.out]; exact cr
        clear cr
        have hal := alive_le gs k
        go_wp2_with fail
        have F := HC2.out.recs j hjk
        refine (remove_any C (hs[j]?.getD 0 + 1) (hs[j]?.getD 0 + 3) (hs[j]?.getD 0 + 2) base v2 (((alive gs k).map (recOf hs)).map Rec.s) wr HC2.out.c F.cb F.sb (by simpa using HO2.out) (fun e => own_type HO2.out e HC2.out.c (by decide) rfl) (fun e => own_type HO2.out e F.cb (by decide) rfl) (fun e => HC2.out.nv _ e j hjk rfl) ⟨_, F.st⟩ (fun p hp => ?_) (fun p hp e => ?_) (by simp; omega)).mono ?_
        · obtain ⟨r, hr, rfl⟩ := List.mem_map.1 hp
          obtain ⟨i, hi, rfl⟩ := List.mem_map.1 hr
          exact ⟨_, (HC2.out.recs i (alive_lt hi)).st⟩
        · rcases hp with rfl | hp
          · exact own_type HO2.out e F.st (by decide) rfl
          · obtain ⟨r, hr, rfl⟩ := List.mem_map.1 hp
            obtain ⟨i, hi, rfl⟩ := List.mem_map.1 hr
            exact own_type HO2.out e (HC2.out.recs i (alive_lt hi)).st (by decide) rfl
        rintro e w3 ⟨rfl, v3, hr⟩
        have hst := removed_step HC2.out HO2.out HGL.out hjk hr
        have HG3 : Hid (w3.ownsRow G 4 1 (.slice (some ⟨G, 0, none⟩) k k) k (gs.map Value.bool)) := hide (owns_keep HG2.out hr.keep (fun x hx e => by
          rcases e with e | e
          · exact own_type HG2.out hx HC2.out.c (by decide) e
          · obtain ⟨cg, hcg⟩ := own_heap HO2.out e
            exact own_type HG2.out hx hcg (by decide) rfl))
        have HC3 := hide hst.1
        have HO3 := hide hst.2
        clear hst hr F HC2 HO2 HG2 cr' cd
        have cg : w3.cell? ⟨G, (d % (k : Int)).toNat, none⟩ = some (.bool (gs[j]?.getD false)) := by
          rw [HJE.out, HG3.out.cellAt j (by omega)]
          simp [List.getElem?_eq_getElem (show j < gs.length by rw [HGL.out]; exact hjk)]
        have fg : w3.frozen? ⟨G, (d % (k : Int)).toNat, none⟩ = false := HG3.out.frozenAt _
        have HG4 : Hid ((w3.setCell ⟨G, (d % (k : Int)).toNat, none⟩ (.bool true)).ownsRow G 4 1 (.slice (some ⟨G, 0, none⟩) k k) k ((gs.set j true).map Value.bool)) := by
          have := (HG3.out.stored (d % (k : Int)).toNat (.bool true)).1
          rw [HJE.out] at this ⊢
          rw [List.map_set]
          exact hide this
        have kG : Keeps (· = G) w3 (w3.setCell ⟨G, (d % (k : Int)).toNat, none⟩ (.bool true)) := (Keeps.refl (· = G) w3).setCell (p := ⟨G, (d % (k : Int)).toNat, none⟩) (fun _ => rfl) _
        have hGblk : ∃ cg, w3.heap[G]? = some (.cells cg 4 (0, 0)) := own_heap HG3.out rfl
        have HC4 : Hid (Core B0 w0 (w3.setCell ⟨G, (d % (k : Int)).toNat, none⟩ (.bool true)) T C L R base k tag hs v3 lv) := by
          obtain ⟨cg, hcg⟩ := hGblk
          exact hide (core_far HC3.out hcg HGB.out kG)
        have HO4 : Hid ((w3.setCell ⟨G, (d % (k : Int)).toNat, none⟩ (.bool true)).ownsRow base 52 1 v3 (alive (gs.set j true) k).length ((((alive (gs.set j true) k).map (recOf hs)).map Rec.s).map sptr)) := by
          obtain ⟨cg, hcg⟩ := hGblk
          exact hide (owns_keep HO3.out kG (fun x hx e => own_type HO3.out hx hcg (by decide) e))
        clear hGblk kG HC3 HO3 HG3
        go_wp2
        clear cg fg
        go_roundw
        case rel => exact ⟨m + 1, by omega, by go_num, _, _, HC4, HO4, HG4⟩
        case measure => simp [intOf]; omega
      · go_wp2
        refine HK.out _ _ ?_
        exact part3 Q0 B0 w0 wr T C L G base G k tag hs gs v2 lv (hide (at3 HC2.out HO2.out HG2.out)) _ _ _ _ _ _ _ _ _ _ _ _ _ _ _ _ _ _ _ _ _ _ _ _ _ _ _ _ _ _ _ _ _ _ _ _ _ _ _ _ _ _ _ _ _ _ _ _ _ _ _ _ _ _ _ _ _ _ _ _ _ _ _ _ _ _ _ _ _ _ _ _ _ _ _ _ _ _ _ _ _ _ _ _ _ _ _ _ _ _ _ _ _ _ _ _ _ _ _ _ _ _ _ _ _ _ _ _ _ _ _ _ _ _ _ _ _ _ _ _ _ _ _ _ _ _ _ _ _ _ _ _ _ _ _ _ _ _ _ _ _ _ _ _ _ _ _ _ _ _ _ _ _ _ _ _ _ _ _ _ _ _ _ _ _ _ _ _ _ _ _ _ _ _ _ _ _ _ _ _ _ _ _ _ _ _ _ _ _ _ _ _ _ _ _ _ _ _ _ _ _ _ _ _ _ _ _ _ _ _ _ hQ
end Go.Proofs.Ybulkdszi
