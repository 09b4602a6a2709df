import Derived.Test.YbulkdtayFmtErrorf
import Derived.Laws.AppendOwn
import Derived.OwnWalk
import Derived.Laws.Rows
import Derived.Deep.AppendLies
import Derived.Maps.AppendAt
namespace Go.Proofs.YbulkdtayFmt
open Go.RowKit Go.Extern.Stop Go.Stop Go.Extern

set_option maxRecDepth 100000 in
theorem check_many (F : Interp) (a : Option Addr) (n cap : Nat) (w : World) (hF : F.answers w.tape) (hn : 128 < n) (hm : n ≤ 9223372036854775807) :
    Calls Ybaf.prog 21 #[.slice a n cap] w fun e w' => (∃ x, e = .returned (.iface 72 (.pointer (some x)))) ∧ Below w.heap.size w w' := by
  have h2 : ¬ (n : Int) < 2 := by omega
  have h128 : (128 : Int) < (n : Int) := by omega
  go_enter Ybaf.func21, Ybaf.ntmps21
  go_wp2_with (go_at_call 24; refine (errorf_many F 128 w.heap.size _ (by exact hF) (by rw [World.cell?_alloc_at (hn := by simp)]; rfl)).mono ?_; rintro e w' ⟨rfl, rfl⟩)
  go_ret
  exact ⟨⟨_, rfl⟩, (((Below.refl _ _).alloc (Nat.le_refl _) _).alloc (by simp) _).drew⟩

set_option maxRecDepth 100000 in
theorem check_ok (g n cap x0 x1 : Nat) (w : World) (h2 : 2 ≤ n) (hn : n ≤ 128) (c0 : w.cell? ⟨g, 0, none⟩ = some (.int .u32 (x0 : Int))) (c1 : w.cell? ⟨g, 1, none⟩ = some (.int .u32 (x1 : Int))) (hx0 : x0 ≤ 2) (hx1 : x0 < 2 → x1 < 40) (hx : x1 ≤ 4294967215) :
    Calls Ybaf.prog 21 #[.slice (some ⟨g, 0, none⟩) n cap] w fun e w' => e = .returned .nilIface ∧ w' = w := by
  have h2' : ¬ (n : Int) < 2 := by omega
  have h128 : ¬ (128 : Int) < (n : Int) := by omega
  have e0 : ¬ (2 : Int) < (x0 : Int) := by omega
  have e2 : ¬ (4294967215 : Int) < (x1 : Int) := by omega
  by_cases h : x0 < 2
  · have e1 : decide ((x0 : Int) < 2) = true := by simp; omega
    have e3 : decide ((40 : Int) ≤ (x1 : Int)) = false := by have := hx1 h; simp; omega
    go_enter Ybaf.func21, Ybaf.ntmps21
    go_wp2
    go_ret
    exact ⟨rfl, rfl⟩
  · have e1 : decide ((x0 : Int) < 2) = false := by simp; omega
    go_enter Ybaf.func21, Ybaf.ntmps21
    go_wp2
    go_ret
    exact ⟨rfl, rfl⟩

/-! The plain function: base 128. -/
def ostep : Option (Nat × List Nat) → Nat → Option (Nat × List Nat)
  | none, _ => none
  | some (n, o), x => if n = 0 ∧ x = 128 then none else if 4294967295 < n * 128 + x % 128 then none else if 128 ≤ x then some (n * 128 + x % 128, o) else some (0, o ++ [n * 128 + x % 128])
def ofold (b : Nat → Nat) : Nat → Option (Nat × List Nat)
  | 0 => some (0, [])
  | m + 1 => ostep (ofold b m) (b m)
def arcs : List Nat → List Nat
  | [] => []
  | f :: t => if f < 40 then 0 :: f :: t else if f < 80 then 1 :: (f - 40) :: t else 2 :: (f - 80) :: t
def oidAns (b : Nat → Nat) (len : Nat) : Option (List Nat) :=
  if len = 0 ∨ 128 ≤ b (len - 1) then none else match ofold b len with
    | none => none
    | some (_, o) => if 127 < o.length then none else some (arcs o)
def u32s (xs : List Nat) : List Value := xs.map fun (n : Nat) => Value.int .u32 (n : Int)
theorem ofold_none {b : Nat → Nat} {m : Nat} (h : ofold b m = none) {k : Nat} (hk : m ≤ k) : ofold b k = none := by
  induction k with
  | zero =>
    obtain rfl : m = 0 := by omega
    exact h
  | succ k ih =>
    rcases Nat.lt_or_ge m (k + 1) with h' | h'
    · rw [ofold, ih (by omega)]; rfl
    · obtain rfl : m = k + 1 := by omega
      exact h
theorem oidAns_none {b : Nat → Nat} {m len : Nat} (h : ofold b m = none) (hm : m ≤ len) : oidAns b len = none := by
  unfold oidAns
  rw [ofold_none h hm]
  split <;> rfl
/-- The numbers fit. -/
theorem ofold_fit {b : Nat → Nat} {m n : Nat} {o : List Nat} (h : ofold b m = some (n, o)) : n ≤ 4294967295 ∧ (∀ x ∈ o, x ≤ 4294967295) ∧ o.length ≤ m ∧ (0 < m → b (m - 1) < 128 → n = 0 ∧ 0 < o.length) := by
  induction m generalizing n o with
  | zero => simp [ofold] at h; obtain ⟨rfl, rfl⟩ := h; simp
  | succ m ih =>
    rw [ofold] at h
    rcases hm : ofold b m with _ | ⟨n', o'⟩
    · rw [hm] at h; cases h
    · rw [hm] at h
      obtain ⟨h1, h2, h3, h4⟩ := ih hm
      simp only [ostep] at h
      split at h
      · cases h
      · split at h
        · cases h
        · split at h
          · simp at h
            obtain ⟨rfl, rfl⟩ := h
            exact ⟨by omega, h2, by omega, fun _ h => by simp at h; omega⟩
          · simp at h
            obtain ⟨rfl, rfl⟩ := h
            refine ⟨by omega, fun x hx => ?_, by simp; omega, fun _ _ => ⟨rfl, by simp⟩⟩
            rcases List.mem_append.1 hx with h | h
            · exact h2 x h
            · simp at h; omega

theorem Ybaf.info56 : (Ybaf.prog.info? 56).map (fun i => (i.zero, i.size, i.bytes)) = some (some (.int .u32 0), 1, 4) := by kernel_rfl

def z16 : Array Value := #[.int .u32 0, .int .u32 0, .int .u32 0, .int .u32 0, .int .u32 0, .int .u32 0, .int .u32 0, .int .u32 0, .int .u32 0, .int .u32 0, .int .u32 0, .int .u32 0, .int .u32 0, .int .u32 0, .int .u32 0, .int .u32 0]
theorem run_make16 (w : World) : (Instr.makeSlice 28 (.int .i64 1) (.int .i64 16)).run Ybaf.prog w = .ok (.slice (some ⟨w.heap.size, 0, none⟩) 1 16) (w.alloc (.cells z16 56)) := by kernel_rfl
theorem own16 (w : World) : (w.alloc (.cells z16 56)).ownsRow w.heap.size 56 1 (.slice (some ⟨w.heap.size, 0, none⟩) 1 16) 1 (u32s [0]) := by
  refine ⟨rfl, .inr ⟨w.heap.size, 16, z16, rfl, Nat.le_refl _, ?_, by omega, by unfold maxLen; omega, rfl, rfl⟩⟩
  exact heap_alloc_new _ _
/-- What an OID's slice reads as. -/
def OidRow (w : World) (v : Value) : Option (List Nat) → Prop
  | none => v = .slice none 0 0
  | some l => ∃ g cap, v = .slice (some ⟨g, 0, none⟩) l.length cap ∧ g < w.heap.size ∧ l.length ≤ 1048577 ∧ ∀ j, j < l.length → w.cell? ⟨g, j, none⟩ = some (.int .u32 (l.getD j 0 : Nat))
theorem OidRow.below {w w' : World} {v : Value} {o : Option (List Nat)} (h : OidRow w v o) (k : Below w.heap.size w w') : OidRow w' v o := by
  cases o with
  | none => exact h
  | some l =>
    obtain ⟨g, cap, rfl, hg, hl, hc⟩ := h
    exact ⟨g, cap, rfl, Nat.lt_of_lt_of_le hg k.size, hl, fun j hj => by rw [k.cell (by exact hg)]; exact hc j hj⟩
def errO (E : Value) (o : Option (List Nat)) : Value := if o.isSome then .nilIface else E
theorem u32_wrap (n : Nat) (h : n ≤ 4294967295) : IntKind.u32.wrap (n : Int) = (n : Int) := by simp [IntKind.wrap, IntKind.bits, IntKind.signed]; omega
theorem below_drewN {B : Nat} {a w : World} (h : Below B a w) (n : Nat) : Below B a (w.drewN n) := ⟨h.os, h.tape, h.output, h.size, h.block⟩
theorem ostep_bad {n x : Nat} {xs : List Nat} (h0 : n = 0 ∧ x = 128) : ostep (some (n, xs)) x = none := by rw [ostep, if_pos h0]
theorem ostep_big {n x : Nat} {xs : List Nat} (h0 : ¬ (n = 0 ∧ x = 128)) (h : 4294967295 < n * 128 + x % 128) : ostep (some (n, xs)) x = none := by rw [ostep, if_neg h0, if_pos h]
theorem ostep_more {n x : Nat} {xs : List Nat} (h0 : ¬ (n = 0 ∧ x = 128)) (h : ¬ 4294967295 < n * 128 + x % 128) (hx : 128 ≤ x) : ostep (some (n, xs)) x = some (n * 128 + x % 128, xs) := by rw [ostep, if_neg h0, if_neg h, if_pos hx]
theorem ostep_end {n x : Nat} {xs : List Nat} (h0 : ¬ (n = 0 ∧ x = 128)) (h : ¬ 4294967295 < n * 128 + x % 128) (hx : x < 128) : ostep (some (n, xs)) x = some (0, xs ++ [n * 128 + x % 128]) := by rw [ostep, if_neg h0, if_neg h, if_neg (by omega)]
theorem u64_shl7p (u : Nat) (x : Nat) (hu : u ≤ 4294967295) : bits .or .u64 ((u : Int) * 128) ((x : Int) % 128) = ((u * 128 + x % 128 : Nat) : Int) := by
  rw [or_u64 7 _ _ (by omega) (by omega) (by omega) (by omega) (by omega) (by decide)]
  omega
theorem cell_at {w : World} {b : Nat} {cs : Array Value} {T : TypeId} {fr : Nat × Nat} (hb : w.heap[b]? = some (.cells cs T fr)) (j : Nat) : w.cell? ⟨b, j, none⟩ = cs[j]? := by simp [World.cell?, hb]
theorem frozen_at {w : World} {b : Nat} {cs : Array Value} {T : TypeId} (hb : w.heap[b]? = some (.cells cs T (0, 0))) (j : Nat) : w.frozen? ⟨b, j, none⟩ = false := by simp [World.frozen?, hb]
theorem cur_at {cur : Array Value} {xs : List Nat} {n : Nat} (h : cur.toList.take n = u32s xs) (hn : xs.length = n) (j : Nat) (hj : j < n) : cur[j]? = some (.int .u32 (xs.getD j 0 : Nat)) := by
  have e := congrArg (fun l => l[j]?) h
  simp only [List.getElem?_take, hj, if_true] at e
  rw [← Array.getElem?_toList, e, u32s, List.getElem?_map]
  simp [List.getElem?_eq_getElem (show j < xs.length by omega)]
theorem oid_end {wr : World} {gg : Nat} {cur : Array Value} {f : Nat} {t : List Nat} (hgg : wr.heap[gg]? = some (.cells cur 56 (0, 0))) (ht : cur.toList.take (t.length + 2) = u32s (0 :: f :: t)) (A D : Nat) :
    ∀ j, j < t.length + 2 → ((wr.setCell ⟨gg, 0, none⟩ (.int .u32 (A : Int))).setCell ⟨gg, 1, none⟩ (.int .u32 (D : Int))).cell? ⟨gg, j, none⟩ = some (.int .u32 ((A :: D :: t).getD j 0 : Nat)) := by
  intro j hj
  have h1 := heap_setCell_same wr gg 0 cur 56 (.int .u32 (A : Int)) hgg
  have h2 := heap_setCell_same _ gg 1 _ 56 (.int .u32 (D : Int)) h1
  have hc := cur_at ht (by simp) j hj
  have hsz : t.length + 2 ≤ cur.size := by
    have := congrArg List.length ht
    simp [u32s] at this
    omega
  rw [cell_at h2]
  rcases Nat.lt_or_ge j 2 with h | h
  · have : j = 0 ∨ j = 1 := by omega
    rcases this with rfl | rfl
    · rw [Array.getElem?_setIfInBounds_ne (by decide), Array.getElem?_setIfInBounds_self_of_lt (by omega)]
      rfl
    · rw [Array.getElem?_setIfInBounds_self_of_lt (by rw [Array.size_setIfInBounds]; omega)]
      rfl
  · obtain ⟨k, rfl⟩ : ∃ k, j = k + 2 := ⟨j - 2, by omega⟩
    rw [Array.getElem?_setIfInBounds_ne (by omega), Array.getElem?_setIfInBounds_ne (by omega), hc]
    rfl
theorem own_lt {w : World} {base : Nat} {e : TypeId} {v : Value} {n : Nat} {xs : List Value} (h : w.ownsRow base e 1 v n xs) {g : Nat} (hv : v.ownBlock = some g) : base ≤ g := by
  rcases h.2 with ⟨rfl, _⟩ | ⟨g', cap, cur, rfl, hb, hg, r⟩
  · simp [Value.ownBlock] at hv
  · simp [Value.ownBlock] at hv
    omega

set_option maxRecDepth 100000 in
set_option maxHeartbeats 8000000 in
theorem poid_ok (F : Interp) (g off len cap : Nat) (b : Nat → Nat) (ea : Addr) (w : World) (hF : F.answers w.tape) (hb : ∀ j, b j < 256) (hp : 0 < len) (hlen : len ≤ 1048576) (hgb : g < w.heap.size) (hcell : ∀ j, j < len → w.cell? ⟨g, off + j, none⟩ = some (.int .u8 (b j : Nat))) (hlast : b (len - 1) < 128) (h0b : 0 < w.heap.size) (hE : w.cell? ⟨0, 0, none⟩ = some (.iface 72 (.pointer (some ea)))) :
    Calls Ybaf.prog 17 #[.slice (some ⟨g, off, none⟩) len cap] w fun e w' => ∃ v, e = .returned (.tuple #[v, errO (.iface 72 (.pointer (some ea))) (oidAns b len)]) ∧ OidRow w' v (oidAns b len) ∧ Below w.heap.size w w' := by
  have hz' : ((len : Int) == 0) = false := by rw [beq_eq_false_iff_ne]; omega
  have cl : w.cell? ⟨g, off + (len - 1), none⟩ = some (.int .u8 (b (len - 1) : Nat)) := hcell (len - 1) (by omega)
  have hand : bits .and .u8 ((b (len - 1) : Nat) : Int) 128 = 0 := by rw [and128 _ (hb _), if_pos hlast]
  obtain ⟨i0, hi, hz0, hz1, hz2⟩ := info_parts Ybaf.info56
  have hmk := run_make16 w
  have HF := hide hF
  have HC := hide hcell
  have HE := hide hE
  have HG := hide hgb
  have H0 := hide h0b
  have HB := hide hb
  have HL := hide hlast
  clear hF hcell hE hgb h0b hb hlast
  go_enter Ybaf.func17, Ybaf.ntmps17
  go_wp2
  clear cl hand hmk hz'
  have HO1 := hide (own16 w)
  have HB1 := hide ((Below.refl w.heap.size w).alloc (Nat.le_refl _) (.cells z16 56))
  generalize w.alloc (.cells z16 56) = w1 at HO1 HB1 ⊢
  generalize hBB : w.heap.size = B at *
  have HBB := hide hBB
  clear hBB
  go_loopw [4, 5, 26] (fun o n i wl => ∃ (j n' : Nat) (xs : List Nat), j ≤ len ∧ i = .int .i64 j ∧ n = .int .u64 (n' : Int) ∧ Hid (ofold b j = some (n', xs)) ∧ Hid (wl.ownsRow B 56 1 o (xs.length + 1) (u32s (0 :: xs))) ∧ Hid (Below B w wl)) (fun _ _ i _ => len - (intOf i).toNat)
  case atStart => exact ⟨0, 0, [], Nat.zero_le _, rfl, rfl, hide rfl, HO1, HB1⟩
  case round =>
    clear HO1 HB1
    obtain ⟨j, n, xs, hj, rfl, rfl, HJ, HO, HW⟩ := hrel
    have hg0 : wr.cell? ⟨0, 0, none⟩ = some (.iface 72 (.pointer (some ea))) := by rw [HW.out.cell (by exact H0.out)]; exact HE.out
    by_cases hlt : j < len
    · have hc : wr.cell? ⟨g, off + j, none⟩ = some (.int .u8 (b j : Nat)) := by rw [HW.out.cell (by exact HG.out)]; exact HC.out j hlt
      have hbj := HB.out j
      have HN := hide (ofold_fit HJ.out)
      have hn := HN.out.1
      have hxl := HN.out.2.2.1
      generalize hx : b j = x at hc hbj
      have HX := hide hx
      clear hx
      have hstep : ofold b (j + 1) = ostep (some (n, xs)) x := by rw [ofold, HJ.out, HX.out]
      have h127 := and127 x hbj
      have hor := u64_shl7p n x hn
      have h128 := and128 x hbj
      have HST := hide hstep
      clear hstep
      by_cases hn0 : n = 0 ∧ x = 128
      · obtain ⟨rfl, rfl⟩ := hn0
        have hans : oidAns b len = none := oidAns_none (m := j + 1) (by rw [HST.out]; exact ostep_bad ⟨rfl, rfl⟩) (by omega)
        clear h127 hor h128
        go_wp2
        go_quiet (fail)
        go_wp2
        go_ret2
        rw [hans]
        exact ⟨_, rfl, rfl, by rw [HBB.out]; exact below_drewN HW.out _⟩
      · by_cases hnz : n = 0
        · have hx : ((x : Int) == 128) = false := by rw [beq_eq_false_iff_ne]; omega
          have hnz' : ((n : Int) == 0) = true := by simp; omega
          have HNZ := hide hnz
          clear hnz
          have HN0 := hide hn0
          clear hn0
          by_cases hbig : 4294967295 < n * 128 + x % 128
          · have hans : oidAns b len = none := oidAns_none (m := j + 1) (by rw [HST.out]; exact ostep_big HN0.out hbig) (by omega)
            have hbig' : (4294967295 : Int) < ((n * 128 + x % 128 : Nat) : Int) := by omega
            clear h128
            generalize n * 128 + x % 128 = N at *
            go_wp2
            go_quiet (fail)
            go_wp2
            go_ret2
            rw [hans]
            exact ⟨_, rfl, rfl, by rw [HBB.out]; exact below_drewN HW.out _⟩
          · have hbig' : ¬ (4294967295 : Int) < ((n * 128 + x % 128 : Nat) : Int) := by omega
            by_cases hx128 : x < 128
            · have HS2 := hide (HST.out.trans (ostep_end HN0.out hbig hx128))
              rw [if_pos hx128] at h128
              have hw32 := u32_wrap (n * 128 + x % 128) (by omega)
              generalize n * 128 + x % 128 = N at *
              go_wp2_with (at_builtin; refine wpList_append_lies _ rfl _ _ 28 rfl B 56 i0 (.int .u32 0) 1 4 Ybaf.underlying28 hi hz0 hz1 hz2 rfl (by decide) _ (xs.length + 1) (u32s (0 :: xs)) rfl (HO.out.alloc _) ⟨wr.heap.size, 0, none⟩ 1 1 [.int .u32 (N : Int)] rfl rfl (cell_one_new _ _ _) (fun u hu => by simp at hu; subst hu; rfl) (by decide) (by unfold maxLen; omega) (by omega) (by have := HW.out.size; rw [HBB.out] at this; simp; omega) _ rfl ?_)
              intro g2 cap2 w2 hown2 hgrow2 hlies2 hlt2
              have HO2 := hide hown2
              have HW2 := hide ((HW.out.alloc (by have := HW.out.size; rw [HBB.out] at this; exact this) (.cells #[.int .u32 (N : Int)] 56)).grown hgrow2 (by have := HW.out.size; rw [HBB.out] at this; simp; omega) (fun k hk => own_lt HO.out hk))
              clear hown2 hgrow2 hlies2 hlt2
              go_wp2
              refine ⟨⟨j + 1, 0, xs ++ [N], by omega, by simp, rfl, HS2, ?_, HW2⟩, by simp [intOf]; omega⟩
              have e1 : (xs ++ [N]).length + 1 = xs.length + 1 + 1 := by simp
              have e2 : u32s (0 :: (xs ++ [N])) = u32s (0 :: xs) ++ [.int .u32 (N : Int)] := by simp [u32s]
              rw [e1, e2]
              exact HO2
            · have HS2 := hide (HST.out.trans (ostep_more HN0.out hbig (by omega)))
              rw [if_neg hx128] at h128
              generalize n * 128 + x % 128 = N at *
              go_wp2
              exact ⟨⟨j + 1, N, xs, by omega, by simp, rfl, HS2, HO, HW⟩, by simp [intOf]; omega⟩
        · have hnz' : ((n : Int) == 0) = false := by rw [beq_eq_false_iff_ne]; omega
          have HNZ := hide hnz
          clear hnz
          have HN0 := hide hn0
          clear hn0
          by_cases hbig : 4294967295 < n * 128 + x % 128
          · have hans : oidAns b len = none := oidAns_none (m := j + 1) (by rw [HST.out]; exact ostep_big HN0.out hbig) (by omega)
            have hbig' : (4294967295 : Int) < ((n * 128 + x % 128 : Nat) : Int) := by omega
            clear h128
            generalize n * 128 + x % 128 = N at *
            go_wp2
            go_quiet (fail)
            go_wp2
            go_ret2
            rw [hans]
            exact ⟨_, rfl, rfl, by rw [HBB.out]; exact below_drewN HW.out _⟩
          · have hbig' : ¬ (4294967295 : Int) < ((n * 128 + x % 128 : Nat) : Int) := by omega
            by_cases hx128 : x < 128
            · have HS2 := hide (HST.out.trans (ostep_end HN0.out hbig hx128))
              rw [if_pos hx128] at h128
              have hw32 := u32_wrap (n * 128 + x % 128) (by omega)
              generalize n * 128 + x % 128 = N at *
              go_wp2_with (at_builtin; refine wpList_append_lies _ rfl _ _ 28 rfl B 56 i0 (.int .u32 0) 1 4 Ybaf.underlying28 hi hz0 hz1 hz2 rfl (by decide) _ (xs.length + 1) (u32s (0 :: xs)) rfl (HO.out.alloc _) ⟨wr.heap.size, 0, none⟩ 1 1 [.int .u32 (N : Int)] rfl rfl (cell_one_new _ _ _) (fun u hu => by simp at hu; subst hu; rfl) (by decide) (by unfold maxLen; omega) (by omega) (by have := HW.out.size; rw [HBB.out] at this; simp; omega) _ rfl ?_)
              intro g2 cap2 w2 hown2 hgrow2 hlies2 hlt2
              have HO2 := hide hown2
              have HW2 := hide ((HW.out.alloc (by have := HW.out.size; rw [HBB.out] at this; exact this) (.cells #[.int .u32 (N : Int)] 56)).grown hgrow2 (by have := HW.out.size; rw [HBB.out] at this; simp; omega) (fun k hk => own_lt HO.out hk))
              clear hown2 hgrow2 hlies2 hlt2
              go_wp2
              refine ⟨⟨j + 1, 0, xs ++ [N], by omega, by simp, rfl, HS2, ?_, HW2⟩, by simp [intOf]; omega⟩
              have e1 : (xs ++ [N]).length + 1 = xs.length + 1 + 1 := by simp
              have e2 : u32s (0 :: (xs ++ [N])) = u32s (0 :: xs) ++ [.int .u32 (N : Int)] := by simp [u32s]
              rw [e1, e2]
              exact HO2
            · have HS2 := hide (HST.out.trans (ostep_more HN0.out hbig (by omega)))
              rw [if_neg hx128] at h128
              generalize n * 128 + x % 128 = N at *
              go_wp2
              exact ⟨⟨j + 1, N, xs, by omega, by simp, rfl, HS2, HO, HW⟩, by simp [intOf]; omega⟩
    · obtain rfl : j = len := by omega
      have hfit := ofold_fit HJ.out
      obtain ⟨rfl, hx0⟩ := hfit.2.2.2 hp HL.out
      obtain ⟨f, t, rfl⟩ : ∃ f t, xs = f :: t := by
        cases xs with
        | nil => simp at hx0
        | cons f t => exact ⟨f, t, rfl⟩
      have hfm : f ≤ 4294967295 := hfit.2.1 f (by simp)
      have htl : t.length + 1 ≤ j := by simpa using hfit.2.2.1
      clear hfit hx0
      have HJ2 := HJ
      clear HJ
      rcases HO.out.2 with ⟨_, h⟩ | ⟨gg, cap2, cur, hu4, hggB, hgg, hnc, hcm, hcs, hcur0⟩
      · omega
      · simp only [List.length_cons, Nat.mul_one] at hcur0 hu4 hnc hcs
        have hcur : cur.toList.take (t.length + 2) = u32s (0 :: f :: t) := hcur0
        clear hcur0 HO
        subst hu4
        have c0 : wr.cell? ⟨gg, 0, none⟩ = some (.int .u32 0) := by rw [cell_at hgg]; exact cur_at hcur (by simp) 0 (by omega)
        have c1 : wr.cell? ⟨gg, 1, none⟩ = some (.int .u32 (f : Int)) := by rw [cell_at hgg]; exact cur_at hcur (by simp) 1 (by omega)
        have f0 := frozen_at hgg 0
        have f1 := frozen_at hgg 1
        have hggl : gg < wr.heap.size := by
          rcases Nat.lt_or_ge gg wr.heap.size with h | h
          · exact h
          · rw [Array.getElem?_eq_none h] at hgg; cases hgg
        generalize hNN : t.length + 1 + 1 = N at hnc ⊢
        have hN : 2 ≤ N := by omega
        by_cases hf : f < 40
        · have harcs : arcs (f :: t) = 0 :: f :: t := by rw [arcs, if_pos hf]
          have hend := oid_end hgg hcur 0 f
          have hb3 : Below B w ((wr.setCell ⟨gg, 0, none⟩ (.int .u32 ((0 : Nat) : Int))).setCell ⟨gg, 1, none⟩ (.int .u32 ((f : Nat) : Int))) := (HW.out.setCell (p := ⟨gg, 0, none⟩) hggB _).setCell (p := ⟨gg, 1, none⟩) hggB _
          have hsz3 : ((wr.setCell ⟨gg, 0, none⟩ (.int .u32 ((0 : Nat) : Int))).setCell ⟨gg, 1, none⟩ (.int .u32 ((f : Nat) : Int))).heap.size = wr.heap.size := by simp [World.setCell]
          have hf' : (f : Int) < 40 := by omega
          go_wp2_with fail
          generalize (wr.setCell ⟨gg, 0, none⟩ (.int .u32 0)).setCell ⟨gg, 1, none⟩ (.int .u32 (f : Int)) = w3 at hend hb3 hsz3 ⊢
          have hF3 : F.answers w3.tape := by rw [hb3.tape]; exact HF.out
          have HE3 := hide hend
          have HB3 := hide hb3
          have hE3 : w3.cell? ⟨0, 0, none⟩ = some (.iface 72 (.pointer (some ea))) := by rw [hb3.cell (by exact H0.out)]; exact HE.out
          clear hend hb3
          by_cases h128 : 128 < N
          · refine (check_many F _ N cap2 w3 hF3 h128 (by omega)).mono ?_
            rintro e w4 ⟨⟨y, rfl⟩, hb4⟩
            have hans : oidAns b j = none := by
              unfold oidAns
              rw [if_neg (by rintro (h | h); omega; exact absurd HL.out (by omega)), HJ2.out]
              exact if_pos (by simp; omega)
            have hE4 : w4.cell? ⟨0, 0, none⟩ = some (.iface 72 (.pointer (some ea))) := by rw [hb4.cell (by have := HB3.out.size; have := HBB.out; have := H0.out; show 0 < w3.heap.size; omega)]; exact hE3
            have HB4 := hide (HB3.out.trans (hb4.mono (by have := HB3.out.size; have := HBB.out; omega)))
            clear hb4 hE3
            go_wp2
            go_quiet (fail)
            go_wp2
            go_ret2
            rw [hans]
            exact ⟨_, rfl, rfl, by rw [HBB.out]; exact below_drewN HB4.out _⟩
          · have hN2 := HE3.out
            refine (check_ok gg N cap2 0 f w3 (by omega) (by omega) (by exact hN2 0 (by omega)) (by exact hN2 1 (by omega)) (by omega) (by omega) (by omega)).mono ?_
            rintro e w4 ⟨rfl, rfl⟩
            have hans : oidAns b j = some (arcs (f :: t)) := by
              unfold oidAns
              rw [if_neg (by rintro (h | h); omega; exact absurd HL.out (by omega)), HJ2.out]
              exact if_neg (by simp; omega)
            clear hN2
            go_wp2
            go_ret2
            rw [hans]
            refine ⟨_, rfl, ⟨gg, cap2, by rw [harcs]; simp; omega, by omega, by rw [harcs]; simp; omega, fun j hj => ?_⟩, by rw [HBB.out]; exact HB3.out⟩
            rw [harcs] at hj ⊢
            exact HE3.out j (by simpa using hj)
        · by_cases hf2 : f < 80
          · have harcs : arcs (f :: t) = 1 :: (f - 40) :: t := by rw [arcs, if_neg hf, if_pos hf2]
            have hend := oid_end hgg hcur 1 (f - 40)
            have hb3 : Below B w ((wr.setCell ⟨gg, 0, none⟩ (.int .u32 ((1 : Nat) : Int))).setCell ⟨gg, 1, none⟩ (.int .u32 (((f - 40) : Nat) : Int))) := (HW.out.setCell (p := ⟨gg, 0, none⟩) hggB _).setCell (p := ⟨gg, 1, none⟩) hggB _
            have hsz3 : ((wr.setCell ⟨gg, 0, none⟩ (.int .u32 ((1 : Nat) : Int))).setCell ⟨gg, 1, none⟩ (.int .u32 (((f - 40) : Nat) : Int))).heap.size = wr.heap.size := by simp [World.setCell]
            have hf' : ¬ (f : Int) < 40 := by omega
            have hf2' : (f : Int) < 80 := by omega
            have es : (((f - 40 : Nat) : Nat) : Int) = (f : Int) - 40 := by omega
            rw [es] at hend hb3 hsz3
            go_wp2_with fail
            generalize (wr.setCell ⟨gg, 0, none⟩ (.int .u32 1)).setCell ⟨gg, 1, none⟩ (.int .u32 ((f : Int) - 40)) = w3 at hend hb3 hsz3 ⊢
            have hF3 : F.answers w3.tape := by rw [hb3.tape]; exact HF.out
            have HE3 := hide hend
            have HB3 := hide hb3
            have hE3 : w3.cell? ⟨0, 0, none⟩ = some (.iface 72 (.pointer (some ea))) := by rw [hb3.cell (by exact H0.out)]; exact HE.out
            clear hend hb3
            by_cases h128 : 128 < N
            · refine (check_many F _ N cap2 w3 hF3 h128 (by omega)).mono ?_
              rintro e w4 ⟨⟨y, rfl⟩, hb4⟩
              have hans : oidAns b j = none := by
                unfold oidAns
                rw [if_neg (by rintro (h | h); omega; exact absurd HL.out (by omega)), HJ2.out]
                exact if_pos (by simp; omega)
              have hE4 : w4.cell? ⟨0, 0, none⟩ = some (.iface 72 (.pointer (some ea))) := by rw [hb4.cell (by have := HB3.out.size; have := HBB.out; have := H0.out; show 0 < w3.heap.size; omega)]; exact hE3
              have HB4 := hide (HB3.out.trans (hb4.mono (by have := HB3.out.size; have := HBB.out; omega)))
              clear hb4 hE3
              go_wp2
              go_quiet (fail)
              go_wp2
              go_ret2
              rw [hans]
              exact ⟨_, rfl, rfl, by rw [HBB.out]; exact below_drewN HB4.out _⟩
            · have hN2 := HE3.out
              refine (check_ok gg N cap2 1 (f - 40) w3 (by omega) (by omega) (by exact hN2 0 (by omega)) (by exact hN2 1 (by omega)) (by omega) (by omega) (by omega)).mono ?_
              rintro e w4 ⟨rfl, rfl⟩
              have hans : oidAns b j = some (arcs (f :: t)) := by
                unfold oidAns
                rw [if_neg (by rintro (h | h); omega; exact absurd HL.out (by omega)), HJ2.out]
                exact if_neg (by simp; omega)
              clear hN2
              go_wp2
              go_ret2
              rw [hans]
              refine ⟨_, rfl, ⟨gg, cap2, by rw [harcs]; simp; omega, by omega, by rw [harcs]; simp; omega, fun j hj => ?_⟩, by rw [HBB.out]; exact HB3.out⟩
              rw [harcs] at hj ⊢
              exact HE3.out j (by simpa using hj)
          · have harcs : arcs (f :: t) = 2 :: (f - 80) :: t := by rw [arcs, if_neg hf, if_neg hf2]
            have hend := oid_end hgg hcur 2 (f - 80)
            have hb3 : Below B w ((wr.setCell ⟨gg, 0, none⟩ (.int .u32 ((2 : Nat) : Int))).setCell ⟨gg, 1, none⟩ (.int .u32 (((f - 80) : Nat) : Int))) := (HW.out.setCell (p := ⟨gg, 0, none⟩) hggB _).setCell (p := ⟨gg, 1, none⟩) hggB _
            have hsz3 : ((wr.setCell ⟨gg, 0, none⟩ (.int .u32 ((2 : Nat) : Int))).setCell ⟨gg, 1, none⟩ (.int .u32 (((f - 80) : Nat) : Int))).heap.size = wr.heap.size := by simp [World.setCell]
            have hf' : ¬ (f : Int) < 40 := by omega
            have hf2' : ¬ (f : Int) < 80 := by omega
            have es : (((f - 80 : Nat) : Nat) : Int) = (f : Int) - 80 := by omega
            rw [es] at hend hb3 hsz3
            go_wp2_with fail
            generalize (wr.setCell ⟨gg, 0, none⟩ (.int .u32 2)).setCell ⟨gg, 1, none⟩ (.int .u32 ((f : Int) - 80)) = w3 at hend hb3 hsz3 ⊢
            have hF3 : F.answers w3.tape := by rw [hb3.tape]; exact HF.out
            have HE3 := hide hend
            have HB3 := hide hb3
            have hE3 : w3.cell? ⟨0, 0, none⟩ = some (.iface 72 (.pointer (some ea))) := by rw [hb3.cell (by exact H0.out)]; exact HE.out
            clear hend hb3
            by_cases h128 : 128 < N
            · refine (check_many F _ N cap2 w3 hF3 h128 (by omega)).mono ?_
              rintro e w4 ⟨⟨y, rfl⟩, hb4⟩
              have hans : oidAns b j = none := by
                unfold oidAns
                rw [if_neg (by rintro (h | h); omega; exact absurd HL.out (by omega)), HJ2.out]
                exact if_pos (by simp; omega)
              have hE4 : w4.cell? ⟨0, 0, none⟩ = some (.iface 72 (.pointer (some ea))) := by rw [hb4.cell (by have := HB3.out.size; have := HBB.out; have := H0.out; show 0 < w3.heap.size; omega)]; exact hE3
              have HB4 := hide (HB3.out.trans (hb4.mono (by have := HB3.out.size; have := HBB.out; omega)))
              clear hb4 hE3
              go_wp2
              go_quiet (fail)
              go_wp2
              go_ret2
              rw [hans]
              exact ⟨_, rfl, rfl, by rw [HBB.out]; exact below_drewN HB4.out _⟩
            · have hN2 := HE3.out
              refine (check_ok gg N cap2 2 (f - 80) w3 (by omega) (by omega) (by exact hN2 0 (by omega)) (by exact hN2 1 (by omega)) (by omega) (by omega) (by omega)).mono ?_
              rintro e w4 ⟨rfl, rfl⟩
              have hans : oidAns b j = some (arcs (f :: t)) := by
                unfold oidAns
                rw [if_neg (by rintro (h | h); omega; exact absurd HL.out (by omega)), HJ2.out]
                exact if_neg (by simp; omega)
              clear hN2
              go_wp2
              go_ret2
              rw [hans]
              refine ⟨_, rfl, ⟨gg, cap2, by rw [harcs]; simp; omega, by omega, by rw [harcs]; simp; omega, fun j hj => ?_⟩, by rw [HBB.out]; exact HB3.out⟩
              rw [harcs] at hj ⊢
              exact HE3.out j (by simpa using hj)

set_option maxRecDepth 100000 in
theorem poid_bad (a : Option Addr) (len cap : Nat) (b : Nat → Nat) (E : Value) (w : World) (h : IsBytes w a len cap b) (hbad : len = 0 ∨ 128 ≤ b (len - 1)) (hE : w.cell? ⟨0, 0, none⟩ = some E) :
    Calls Ybaf.prog 17 #[.slice a len cap] w fun e w' => e = .returned (.tuple #[.slice none 0 0, E]) ∧ ∃ n, w' = w.drewN n := by
  obtain ⟨hlc, hcm, hb, hc⟩ := h
  by_cases hz : len = 0
  · subst hz
    clear hc hbad
    go_enter Ybaf.func17, Ybaf.ntmps17
    go_wp2
    go_quiet (fail)
    go_wp2
    go_ret2
    exact ⟨rfl, _, rfl⟩
  · have hz' : ((len : Int) == 0) = false := by rw [beq_eq_false_iff_ne]; omega
    obtain ⟨g, off, rfl, hcell⟩ := hc (by omega)
    have hlast : 128 ≤ b (len - 1) := by rcases hbad with h | h; omega; exact h
    have cl : w.cell? ⟨g, off + (len - 1), none⟩ = some (.int .u8 (b (len - 1) : Nat)) := hcell (len - 1) (by omega)
    have hand : bits .and .u8 ((b (len - 1) : Nat) : Int) 128 = 128 := by rw [and128 _ (hb _), if_neg (by omega)]
    clear hc hbad hlast
    go_enter Ybaf.func17, Ybaf.ntmps17
    go_wp2
    go_quiet (fail)
    go_wp2
    go_ret2
    exact ⟨rfl, _, rfl⟩

theorem cell_lt {w : World} {b off : Nat} {v : Value} (h : w.cell? ⟨b, off, none⟩ = some v) : b < w.heap.size := by
  rcases Nat.lt_or_ge b w.heap.size with h' | h'
  · exact h'
  · simp [World.cell?, Array.getElem?_eq_none h'] at h

/-- parseOID. -/
theorem poid_any (F : Interp) (a : Option Addr) (len cap : Nat) (b : Nat → Nat) (ea : Addr) (w : World) (hF : F.answers w.tape) (h : IsBytes w a len cap b) (hlen : len ≤ 1048576) (hE : w.cell? ⟨0, 0, none⟩ = some (.iface 72 (.pointer (some ea)))) :
    Calls Ybaf.prog 17 #[.slice a len cap] w fun e w' => ∃ v, e = .returned (.tuple #[v, errO (.iface 72 (.pointer (some ea))) (oidAns b len)]) ∧ OidRow w' v (oidAns b len) ∧ Below w.heap.size w w' := by
  by_cases hbad : len = 0 ∨ 128 ≤ b (len - 1)
  · have hans : oidAns b len = none := by unfold oidAns; rw [if_pos hbad]
    rw [hans]
    refine (poid_bad a len cap b _ w h hbad hE).mono ?_
    rintro e w' ⟨rfl, n, rfl⟩
    exact ⟨_, rfl, rfl, below_drewN (Below.refl _ _) _⟩
  · obtain ⟨hlc, hcm, hb, hc⟩ := h
    obtain ⟨g, off, rfl, hcell⟩ := hc (by omega)
    exact poid_ok F g off len cap b ea w hF hb (by omega) hlen (cell_lt (hcell 0 (by omega))) hcell (by omega) (cell_lt hE) hE
end Go.Proofs.YbulkdtayFmt
