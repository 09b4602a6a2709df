import Derived.Test.YbulkdtayFmtBytes
import Derived.Deep.Cut
import Derived.Deep.CutRange
import Derived.Deep.Slices
namespace Go.Proofs.YbulkdtayFmt
open Go.RowKit

/-- The 24 digits' places. -/
structure Buf (B : Nat) (w0 wl : World) : Prop where
  cell : ∀ j, j < 24 → ∃ v : Nat, v < 256 ∧ wl.cell? ⟨B, j, none⟩ = some (.int .u8 ((v : Nat) : Int))
  froz : ∀ j, wl.frozen? ⟨B, j, none⟩ = false
  bel : Below B w0 wl
  lt : B < wl.heap.size
  eq : B = w0.heap.size

theorem buf_set {B : Nat} {w0 wl : World} (h : Buf B w0 wl) (i v : Nat) (hi : i < 24) (hv : v < 256) : Buf B w0 (wl.setCell ⟨B, i, none⟩ (.int .u8 ((v : Nat) : Int))) := by
  refine ⟨fun j hj => ?_, fun j => by rw [World.frozen?_setCell]; exact h.froz j, h.bel.setCell (p := ⟨B, i, none⟩) (Nat.le_refl _) _, by simp [World.setCell]; exact h.lt, h.eq⟩
  obtain ⟨u, hu, hc⟩ := h.cell j hj
  by_cases e : j = i
  · subst e
    exact ⟨v, hv, World.cell?_setCell_same _ _ _ hc⟩
  · refine ⟨u, hu, ?_⟩
    rw [World.cell?_setCell_other _ _ _ _ (by intro x; injection x with _ x; exact e x.symm)]
    exact hc
theorem buf_new (w : World) (o : Obj) (ho : ∃ cs t, o = .cells cs t (0, 0) ∧ ∀ j, j < 24 → cs[j]? = some (.int .u8 0)) : Buf w.heap.size w (w.alloc o) := by
  obtain ⟨cs, t, rfl, hcs⟩ := ho
  have hb : (w.alloc (.cells cs t (0, 0))).heap[w.heap.size]? = some (.cells cs t (0, 0)) := heap_alloc_new _ _
  exact ⟨fun j hj => ⟨0, by omega, by rw [cell_at hb, hcs j hj]; rfl⟩, fun j => frozen_at hb j, (Below.refl _ _).alloc (Nat.le_refl _) _, by simp, rfl⟩
theorem buf_kept {B : Nat} {w0 wl w' : World} (h : Buf B w0 wl) (k : ∀ b, b ≤ B → w'.heap[b]? = wl.heap[b]?) (hb : Below B w0 w') (hl : B < w'.heap.size) : Buf B w0 w' := by
  have e : w'.heap[B]? = wl.heap[B]? := k B (Nat.le_refl _)
  refine ⟨fun j hj => ?_, fun j => ?_, hb, hl, h.eq⟩
  · obtain ⟨u, hu, hc⟩ := h.cell j hj
    exact ⟨u, hu, by rw [World.cell?_of_block (w := wl) e]; exact hc⟩
  · have := h.froz j
    unfold World.frozen? at this ⊢
    rw [e]
    exact this

/-- Behind the digits: what is written out. -/
structure Cd (B : Nat) (w0 wc : World) (v : Value) (n : Nat) : Prop where
  own : ∃ b : Nat → Nat, (∀ j, b j < 256) ∧ wc.ownsRow (B + 1) 5 1 v n (u8s b n)
  buf : Buf B w0 wc

theorem u8s_snoc (b : Nat → Nat) (n c : Nat) : u8s b n ++ [.int .u8 (c : Int)] = u8s (fun j => if j < n then b j else c) (n + 1) := by
  unfold u8s
  rw [List.range_succ, List.map_append]
  congr 1
  · apply List.map_congr_left
    intro j hj
    have : j < n := by simpa using hj
    simp [this]
  · simp
theorem u8s_join (b f : Nat → Nat) (n m : Nat) : u8s b n ++ u8s f m = u8s (fun j => if j < n then b j else f (j - n)) (n + m) := by
  unfold u8s
  rw [List.range_add, List.map_append]
  congr 1
  · apply List.map_congr_left
    intro j hj
    have : j < n := by simpa using hj
    simp [this]
  · rw [List.map_map]
    apply List.map_congr_left
    intro j _
    have hj : ¬ n + j < n := by omega
    simp [hj]

theorem dec_own_lt {wc : World} {B n : Nat} {v : Value} {xs : List Value} (h : wc.ownsRow (B + 1) 5 1 v n xs) {g : Nat} (hg : v.ownBlock = some g) : B < g := by
  rcases h.2 with ⟨h', _⟩ | ⟨g', cap', cur, h', hb, _⟩
  · rw [h'] at hg; simp [Value.ownBlock] at hg
  · rw [h'] at hg
    simp [Value.ownBlock] at hg
    omega

theorem buf_grown {B : Nat} {w0 w1 w2 : World} {v : Value} (h : Buf B w0 w1) (hv : ∀ g, v.ownBlock = some g → B < g) (hg : w1.grownBy w2 v.ownBlock) : Buf B w0 w2 := by
  refine buf_kept h (fun b hb => hg.block b (by have := h.lt; omega) (fun e => by have := hv b e.symm; omega)) (h.bel.grown hg (by have := h.lt; omega) (fun k hk => by have := hv k hk; omega)) ?_
  have := hg.size
  have := h.lt
  omega
theorem buf_alloc {B : Nat} {w0 w1 : World} (h : Buf B w0 w1) (o : Obj) : Buf B w0 (w1.alloc o) :=
  buf_kept h (fun b hb => Below.heap_alloc _ _ _ (by have := h.lt; omega)) (h.bel.alloc (by have := h.lt; omega) _) (by have := h.lt; simp; omega)

theorem cd_append {B : Nat} {w0 wd w2 : World} {v : Value} {n g2 cap2 : Nat} {b : Nat → Nat} (c : Nat) (hc : c < 256) (h : Buf B w0 wd) (hb : ∀ j, b j < 256) (ho : wd.ownsRow (B + 1) 5 1 v n (u8s b n))
    (ho2 : w2.ownsRow (B + 1) 5 1 (.slice (some ⟨g2, 0, none⟩) (n + 1) cap2) (n + 1) (u8s b n ++ [.int .u8 (c : Int)])) (hg : (wd.alloc (.cells #[.int .u8 (c : Int)] 5)).grownBy w2 v.ownBlock) : Cd B w0 w2 (.slice (some ⟨g2, 0, none⟩) (n + 1) cap2) (n + 1) := by
  rw [u8s_snoc] at ho2
  exact ⟨⟨_, fun j => by split; exact hb j; exact hc, ho2⟩, buf_grown (buf_alloc h _) (fun g e => dec_own_lt ho e) hg⟩
theorem cd_empty {B : Nat} {w0 wd : World} (h : Buf B w0 wd) : Cd B w0 (wd.alloc (.cells #[] 5)) (.slice (some ⟨wd.heap.size, 0, none⟩) 0 0) 0 :=
  ⟨⟨fun _ => 0, fun _ => by show (0 : Nat) < 256; omega, ⟨rfl, .inr ⟨wd.heap.size, 0, #[], rfl, h.lt, heap_alloc_new _ _, Nat.le_refl _, Nat.zero_le _, rfl, rfl⟩⟩⟩, buf_alloc h _⟩

theorem buf_fun {B : Nat} {w0 wl : World} (h : Buf B w0 wl) : ∃ f : Nat → Nat, (∀ j, f j < 256) ∧ ∀ j, j < 24 → wl.cell? ⟨B, j, none⟩ = some (.int .u8 ((f j : Nat) : Int)) := by
  obtain ⟨f, hf⟩ := Deep.choose_lt h.cell
  refine ⟨fun j => if j < 24 then f j else 0, fun j => ?_, fun j hj => ?_⟩
  · show (if j < 24 then f j else 0) < 256
    split
    · rename_i hj; exact (hf j hj).1
    · omega
  · simp only [hj, if_true]
    exact (hf j hj).2
theorem alen57 : Ybaf.prog.arrayLen 57 = 24 := by kernel_rfl
theorem elem57 : Ybaf.prog.elem 57 = 5 := by kernel_rfl
theorem und57 : Ybaf.prog.underlying 57 = some (.array (Ybaf.prog.arrayLen 57) (Ybaf.prog.elem 57)) := by kernel_rfl
theorem slice57 (B i : Nat) (hi : i < 24) (w : World) : (Instr.sliceAt 57 (.pointer (some ⟨B, 0, none⟩)) (some (.int .i64 (i : Int))) none none).run Ybaf.prog w = .ok (.slice (some ⟨B, i, none⟩) (24 - i) (24 - i)) w := by
  rw [run_sliceAt_array_l w 57 ⟨B, 0, none⟩ und57 .i64 i (by omega) (by rw [alen57]; omega), elem57, alen57, Ybaf.sizeOf5]
  simp [slicedAt, Result.andThen, Addr.add_lit]
  omega

theorem pow10_lt {m i : Nat} (h : m < 10 ^ (i + 1)) : m / 10 < 10 ^ i := by
  rw [Nat.div_lt_iff_lt_mul (by decide)]
  rw [Nat.pow_succ] at h
  exact h
theorem pow10_pos {m i : Nat} (h : m < 10 ^ i) (hm : m ≠ 0) : 1 ≤ i := by
  cases i with
  | zero => simp at h; exact absurd h hm
  | succ => omega

set_option maxRecDepth 100000 in
set_option maxHeartbeats 2000000 in
theorem dec_any (x : Int) (plus : Bool) (zeros : Nat) (w : World) (hx0 : -9223372036854775808 ≤ x) (hx1 : x ≤ 9223372036854775807) (hz : zeros ≤ 2) :
    Calls Ybaf.prog 13 #[.int .i64 x, .bool plus, .int .i64 (zeros : Int)] w fun e w' => ∃ g len cap b, e = .returned (.slice (some ⟨g, 0, none⟩) len cap) ∧ len ≤ 1048576 ∧ IsBytes w' (some ⟨g, 0, none⟩) len cap b ∧ Below w.heap.size w w' := by
  obtain ⟨i0, hi, hz0', hz1, hz2⟩ := info_parts Ybaf.info5
  go_enter Ybaf.func13, Ybaf.ntmps13
  go_upto_if 15 with fail
  go_cut [8] from 13 (fun v wc => ∃ m : Nat, v = .int .u64 (m : Int) ∧ m ≤ 9223372036854775808 ∧ w = wc)
  case first =>
    by_cases hn : x < 0
    · go_wp2
      go_meet
      case rel =>
        refine ⟨(-x).toNat, ?_, by omega, rfl⟩
        congr 1
        omega
    · go_wp2
      go_meet
      case rel =>
        refine ⟨x.toNat, ?_, by omega, rfl⟩
        congr 1
        omega
  case rest =>
    obtain ⟨m0, rfl, hm0, rfl⟩ := hcut
    generalize hneg : decide (x < 0) = neg
    clear hneg hx0 hx1
    go_wp2_with fail
    have HB : Hid (Buf w.heap.size w (w.alloc (.cells #[.int .u8 0, .int .u8 0, .int .u8 0, .int .u8 0, .int .u8 0, .int .u8 0, .int .u8 0, .int .u8 0, .int .u8 0, .int .u8 0, .int .u8 0, .int .u8 0, .int .u8 0, .int .u8 0, .int .u8 0, .int .u8 0, .int .u8 0, .int .u8 0, .int .u8 0, .int .u8 0, .int .u8 0, .int .u8 0, .int .u8 0, .int .u8 0] 57))) := hide (buf_new w _ ⟨Array.replicate 24 (.int .u8 0), 57, rfl, fun j hj => by simp [hj]⟩)
    generalize hBB : w.heap.size = B at HB ⊢
    have HBB := hide hBB
    clear hBB
    rename_i K1 aK1
    have HK := hide aK1
    clear aK1
    go_loopw [8, 10] (fun mag i wl => ∃ m n : Nat, mag = .int .u64 m ∧ i = .int .i64 n ∧ 1 ≤ n ∧ n ≤ 24 ∧ m ≤ 9223372036854775808 ∧ Hid (m < 10 ^ n) ∧ Hid (Buf B w wl)) (fun _ i _ => (intOf i).toNat)
    case atStart => exact ⟨m0, 24, rfl, rfl, by omega, by omega, hm0, hide (by omega), HB⟩
    case round =>
      clear HB
      obtain ⟨m, n, rfl, rfl, hn1, hn2, hml, HM, HB⟩ := hrel
      obtain ⟨i, rfl⟩ : ∃ i, n = i + 1 := ⟨n - 1, by omega⟩
      obtain ⟨u, hu, ci⟩ := HB.out.cell i (by omega)
      have fi := HB.out.froz i
      have HB1 := hide (buf_set HB.out i (48 + m % 10) (by omega) (by omega))
      have hm10 := pow10_lt HM.out
      by_cases hz0 : m / 10 = 0
      · have hzi : ((m : Int) / 10 == 0) = true := by simp; omega
        go_wp2_with fail
        have ec : ((48 + m % 10 : Nat) : Int) = 48 + (m : Int) % 10 := by omega
        rw [ec] at HB1
        generalize wr.setCell ⟨B, i, none⟩ (.int .u8 (48 + (m : Int) % 10)) = wd at HB1 ⊢
        clear ec ci fi HB HM hm10 hzi hz0
        refine HK.out _ _ ?_
        clear HK
        have HC0 := hide (cd_empty HB1.out)
        generalize hg0 : wd.heap.size = g0 at HC0
        go_upto_if 36 with fail
        go_cut [11] from 13 (fun v we => ∃ g n cap, v = .slice (some ⟨g, 0, none⟩) n cap ∧ n ≤ 1 ∧ Hid (Cd B w we v n))
        case first =>
          obtain ⟨b, hb, ho⟩ := HC0.out.own
          have HO := hide ho
          clear ho
          have HBF := hide HC0.out.buf
          have HLT := hide HC0.out.buf.lt
          clear hg0
          generalize wd.alloc (.cells #[] 5) = we at *
          cases neg
          · cases plus
            · go_wp2
              go_meet
              case rel => exact ⟨_, 0, _, rfl, by omega, HC0⟩
            · go_wp2_with (at_builtin; refine wpList_append_lies _ rfl _ _ 22 rfl (B + 1) 5 i0 (.int .u8 0) 1 1 Ybaf.underlying22 hi hz0' hz1 hz2 rfl (by decide) _ 0 (u8s b 0) rfl (HO.out.alloc _) ⟨we.heap.size, 0, none⟩ 1 1 [.int .u8 43] rfl rfl (cell_one_new _ _ _) (fun u hu => by simp at hu; subst hu; rfl) (by decide) (by unfold maxLen; omega) (by omega) (by have := HLT.out; simp; omega) _ rfl ?_)
              intro g2 cap2 w2 hown2 hgrow2 hat2 hlt2
              have HC2 := hide (cd_append 43 (by omega) HBF.out hb HO.out hown2 hgrow2)
              clear hown2 hgrow2
              go_wp2
              go_meet
              case rel => exact ⟨_, 1, _, rfl, by omega, HC2⟩
          · go_wp2_with (at_builtin; refine wpList_append_lies _ rfl _ _ 22 rfl (B + 1) 5 i0 (.int .u8 0) 1 1 Ybaf.underlying22 hi hz0' hz1 hz2 rfl (by decide) _ 0 (u8s b 0) rfl (HO.out.alloc _) ⟨we.heap.size, 0, none⟩ 1 1 [.int .u8 45] rfl rfl (cell_one_new _ _ _) (fun u hu => by simp at hu; subst hu; rfl) (by decide) (by unfold maxLen; omega) (by omega) (by have := HLT.out; simp; omega) _ rfl ?_)
            intro g2 cap2 w2 hown2 hgrow2 hat2 hlt2
            have HC2 := hide (cd_append 45 (by omega) HBF.out hb HO.out hown2 hgrow2)
            clear hown2 hgrow2
            go_wp2
            go_meet
            case rel => exact ⟨_, 1, _, rfl, by omega, HC2⟩
        case rest =>
          obtain ⟨g, n, cap, rfl, hn, HC1⟩ := hcut
          clear HC0 HB1 hg0
          go_wp2_with fail
          rename_i K2 aK2
          have HK2 := hide aK2
          clear aK2
          go_loopw [11, 12] (fun v k wl => ∃ g n cap q : Nat, v = .slice (some ⟨g, 0, none⟩) n cap ∧ k = .int .i64 q ∧ q ≤ zeros ∧ n ≤ 1 + q ∧ Hid (Cd B w wl v n)) (fun _ k _ => zeros - (intOf k).toNat)
          case atStart => exact ⟨g, n, cap, 0, rfl, rfl, by omega, by omega, HC1⟩
          case round =>
            clear HC1
            obtain ⟨g, n, cap, q, rfl, rfl, hq, hnq, HC1⟩ := hrel
            obtain ⟨b, hb, ho⟩ := HC1.out.own
            have HO := hide ho
            clear ho
            have HBF := hide HC1.out.buf
            have HLT := hide HC1.out.buf.lt
            by_cases hlt : q < zeros
            · go_wp2_with (at_builtin; refine wpList_append_lies _ rfl _ _ 22 rfl (B + 1) 5 i0 (.int .u8 0) 1 1 Ybaf.underlying22 hi hz0' hz1 hz2 rfl (by decide) _ n (u8s b n) rfl (HO.out.alloc _) ⟨wr.heap.size, 0, none⟩ 1 1 [.int .u8 48] rfl rfl (cell_one_new _ _ _) (fun u hu => by simp at hu; subst hu; rfl) (by decide) (by unfold maxLen; omega) (by omega) (by have := HLT.out; simp; omega) _ rfl ?_)
              intro g2 cap2 w2 hown2 hgrow2 hat2 hlt2
              have HC2 := hide (cd_append 48 (by omega) HBF.out hb HO.out hown2 hgrow2)
              clear hown2 hgrow2
              go_wp2
              exact ⟨⟨g2, n + 1, cap2, q + 1, rfl, by simp, by omega, by omega, HC2⟩, by simp [intOf]; omega⟩
            · go_wp2_with fail
              refine HK2.out _ _ ?_
              clear HK2
              obtain ⟨f, hf0, hf⟩ := buf_fun HBF.out
              have hsl := slice57 B i (by omega) wr
              have HF : Hid (∀ j u, (u8s (fun k => f (i + k)) (24 - i))[j]? = some u → wr.cell? ((⟨B, i, none⟩ : Addr).add j) = some u) := hide (fun j u hu => by
                have hj : j < 24 - i := by
                  have := (List.getElem?_eq_some_iff.1 hu).1
                  simpa [u8s] using this
                rw [u8s_at _ _ j hj] at hu
                rw [Addr.add_lit, ← hu]
                exact hf (i + j) (by omega))
              go_wp2_with (at_builtin; refine wpList_append_lies _ rfl _ _ 22 rfl (B + 1) 5 i0 (.int .u8 0) 1 1 Ybaf.underlying22 hi hz0' hz1 hz2 rfl (by decide) _ n (u8s b n) rfl HO.out ⟨B, i, none⟩ (24 - i) _ (u8s (fun k => f (i + k)) (24 - i)) rfl (by simp [u8s]) HF.out (fun u hu => by simp [u8s] at hu; obtain ⟨x, _, rfl⟩ := hu; rfl) (by omega) (by unfold maxLen; omega) (by omega) (by have := HLT.out; omega) _ rfl ?_)
              intro g2 cap2 w2 hown2 hgrow2 hat2 hlt2
              rw [u8s_join] at hown2
              have hbb : ∀ j, (fun j => if j < n then b j else f (i + (j - n))) j < 256 := fun j => by
                show (if j < n then b j else f (i + (j - n))) < 256
                split
                · exact hb j
                · exact hf0 _
              have HBY := hide (bytes_of_own hbb hown2)
              have HBL := hide (buf_grown HBF.out (fun g e => dec_own_lt HO.out e) hgrow2).bel
              clear hown2 hgrow2 hsl
              go_wp2
              exact bodyPost_ret (v := .slice (some ⟨g2, 0, none⟩) (n + (24 - i)) cap2) (by simp [results, Ybaf.results13, go_sem]) rfl ⟨g2, _, cap2, rfl, by omega, ⟨_, HBY.out⟩, by rw [HBB.out]; exact HBL.out⟩
      · have hzi : ((m : Int) / 10 == 0) = false := by simp; omega
        go_wp2_with fail
        have ec : ((48 + m % 10 : Nat) : Int) = 48 + (m : Int) % 10 := by omega
        rw [ec] at HB1
        exact ⟨⟨m / 10, i, by simp, rfl, pow10_pos hm10 hz0, by omega, by omega, hide hm10, HB1⟩, by simp [intOf]⟩
end Go.Proofs.YbulkdtayFmt
