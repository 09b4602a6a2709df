import Derived.Test.YbulkdtayFmtErrorf
import Derived.Test.YbulkdtayFmtBytes
import Derived.Test.YbulkdtayFmtShelf
import Derived.Test.YbulkdtayFmtParseC
namespace Go.Proofs.YbulkdtayFmt
open Go.RowKit Go.Extern.Stop Go.Stop Go.Extern

theorem fmtC0 : FmtStop.printed? ⟨#[110, 111, 116, 32, 97, 110, 32, 105, 110, 116, 101, 103, 101, 114, 32, 102, 114, 111, 109, 32, 37, 100, 32, 116, 111, 32, 37, 100]⟩ 2 = some [(0, 100, false), (1, 100, false)] := by kernel_rfl
theorem fmtC0r (w : World) : (FmtDoors.printed ⟨#[110, 111, 116, 32, 97, 110, 32, 105, 110, 116, 101, 103, 101, 114, 32, 102, 114, 111, 109, 32, 37, 100, 32, 116, 111, 32, 37, 100]⟩ 2).run Ybaf.prog w = .ok [(0, 100, false), (1, 100, false)] w := by kernel_rfl
def shape2 : List UInt8 := [5, 5, 0, 0, 0, 0, 0, 0, 0, 105, 110, 116, 54, 52]
theorem op2_100w (name : String) (x : Int) (w : World) : (FmtStop.operand name true 100 false (.iface 2 (.int .i64 x))).run Ybaf.prog w = .ok (shape2, Go.Extern.Stop.digits 8 (x % 2 ^ 64).toNat) w := by kernel_rfl
attribute [local go_sem] call31 fmtGuard fmtC0 fmtC0r op2_100w ptr72 elem72

set_option maxRecDepth 100000 in
set_option maxHeartbeats 2000000 in
theorem errorf_two (F : Interp) (x y : Int) (blk : Nat) (w : World) (hF : F.answers w.tape) (hc0 : w.cell? ⟨blk, 0, none⟩ = some (.iface 2 (.int .i64 x))) (hc1 : w.cell? ⟨blk, 1, none⟩ = some (.iface 2 (.int .i64 y))) :
    Calls Ybaf.prog 24 #[.string ⟨#[110, 111, 116, 32, 97, 110, 32, 105, 110, 116, 101, 103, 101, 114, 32, 102, 114, 111, 109, 32, 37, 100, 32, 116, 111, 32, 37, 100]⟩, .slice (some ⟨blk, 0, none⟩) 2 2] w fun e w' =>
      (∃ p, e = .returned (.iface 72 (.pointer (some p)))) ∧ Below w.heap.size w w' := by
  have hF' := hF
  unfold Interp.answers at hF'
  go_enter Ybaf.func24, Ybaf.ntmps24
  go_wp2
  go_ret
  exact ⟨⟨_, rfl⟩, ((Below.refl _ _).alloc (Nat.le_refl _) _).drew⟩

set_option maxRecDepth 100000 in
set_option maxHeartbeats 2000000 in
theorem range_any (F : Interp) (x y : Int) (w : World) (hF : F.answers w.tape) :
    Calls Ybaf.prog 20 #[.int .i64 x, .int .i64 y] w fun e w' => (∃ p, e = .returned (.iface 72 (.pointer (some p)))) ∧ Below w.heap.size w w' := by
  go_enter Ybaf.func20, Ybaf.ntmps20
  have hb : Below w.heap.size w (w.alloc (.cells #[.iface 2 (.int .i64 x), .iface 2 (.int .i64 y)] 20)) := (Below.refl _ _).alloc (Nat.le_refl _) _
  go_wp2_with (go_at_call 24; refine (errorf_two F x y w.heap.size _ (by rw [hb.tape]; exact hF) (by rw [cell_at (heap_alloc_new _ _)]; rfl) (by rw [cell_at (heap_alloc_new _ _)]; rfl)).mono ?_; rintro e w1 ⟨⟨p, rfl⟩, hb1⟩)
  go_ret
  exact ⟨⟨_, rfl⟩, hb.trans (hb1.mono hb.size)⟩

theorem conv44 {w : World} {a : Option Addr} {len cap : Nat} {b : Nat → Nat} (h : IsBytes w a len cap b) : (convert 44 9 (.slice a len cap)).run Ybaf.prog w = .ok (.string (strB b len)) w := by
  obtain ⟨hlc, hcm, hb, hc⟩ := h
  rcases Nat.eq_zero_or_pos len with rfl | hp
  · exact run_convert_bytes_zero w 44 5 Ybaf.underlying44 Ybaf.underlying5 a cap 9 Ybaf.underlying9
  · obtain ⟨g, off, rfl, hcell⟩ := hc hp
    refine run_convert_bytes_arg w 44 5 Ybaf.underlying44 Ybaf.underlying5 g off len cap _ (by simp) (fun i hi => ?_) 9 Ybaf.underlying9
    rw [hcell i hi]
    simp [List.getD, hi]
theorem bl_range (b : Nat → Nat) : ∀ (len i : Nat), bl b i len = (List.range len).map fun j => UInt8.ofNat (b (i + j))
  | 0, _ => rfl
  | n + 1, i => by
    rw [bl, bl_range b n (i + 1), List.range_succ_eq_map, List.map_cons, List.map_map]
    congr 1
    apply List.map_congr_left
    intro j _
    show UInt8.ofNat (b (i + 1 + j)) = UInt8.ofNat (b (i + (j + 1)))
    rw [show i + 1 + j = i + (j + 1) by omega]
theorem strB_list (b : Nat → Nat) (len : Nat) : (strB b len).data.toList = bl b 0 len := by
  rw [bl_range, strB, strOfNums_data, List.map_map]
  apply List.map_congr_left
  intro j _
  simp
theorem strB_size (b : Nat → Nat) (len : Nat) : (strB b len).size = len := by
  rw [strB, strOfNums_size]
  simp

/-- decodeInteger. -/
def Dec (b : Nat → Nat) (len : Nat) (mn mx : Int) (e : Ending) : Prop :=
  (∃ v, cpar b len = some v ∧ mn ≤ v ∧ v ≤ mx ∧ e = .returned (.tuple #[.int .i64 v, .nilIface])) ∨ ((∀ v, cpar b len = some v → ¬ (mn ≤ v ∧ v ≤ mx)) ∧ ∃ p, e = .returned (.tuple #[.int .i64 0, .iface 72 (.pointer (some p))]))

theorem bytes_below {w w1 : World} {T : TypeId} (h : w1 = w ∨ ∃ t, w1 = Lib.bytesWorld w T t) : Below w.heap.size w w1 := by
  rcases h with rfl | ⟨t, rfl⟩
  · exact Below.refl _ _
  · exact Lib.bytesWorld_below _ _ _

set_option maxRecDepth 100000 in
set_option maxHeartbeats 2000000 in
theorem dec_err (F : Interp) (a : Option Addr) (len cap : Nat) (b : Nat → Nat) (mn mx : Int) (w : World) (s : ByteArray) (n : Int) (hF : F.answers w.tape) (hcv : (convert 44 9 (.slice a len cap)).run Ybaf.prog w = .ok (.string s) w) (hC : ∀ v, cpar b len ≠ some v)
    (hP : Calls Ybaf.prog 19 #[.string s, .int .i64 10, .int .i64 64] w fun e w' => ∃ N, e = .returned (.tuple #[.int .i64 n, .iface 67 (.pointer (some ⟨N, 0, none⟩))]) ∧ Below w.heap.size w w') :
    Calls Ybaf.prog 14 #[.slice a len cap, .int .i64 mn, .int .i64 mx] w fun e w' => Dec b len mn mx e ∧ Below w.heap.size w w' := by
  have HP := hide hP
  have HF := hide hF
  have HC := hide hC
  clear hP hF hC
  go_enter Ybaf.func14, Ybaf.ntmps14
  go_wp2_with fail
  refine HP.out.mono ?_
  rintro e w1 ⟨N, rfl, hb1⟩
  go_wp2_with fail
  refine (range_any F mn mx w1 (by rw [hb1.tape]; exact HF.out)).mono ?_
  rintro e w2 ⟨⟨p, rfl⟩, hb2⟩
  go_wp2
  go_ret2
  exact ⟨.inr ⟨fun v' hv' => absurd hv' (HC.out v'), p, rfl⟩, hb1.trans (hb2.mono hb1.size)⟩

set_option maxRecDepth 100000 in
set_option maxHeartbeats 2000000 in
theorem decode_any (F : Interp) (a : Option Addr) (len cap : Nat) (b : Nat → Nat) (mn mx : Int) (w : World) (hF : F.answers w.tape) (h : IsBytes w a len cap b) (hlen : len ≤ 1048576) (ts tr : TypeId) (ps pr : Value) (hs : w.cell? ⟨1, 0, none⟩ = some (.iface ts ps)) (hr : w.cell? ⟨2, 0, none⟩ = some (.iface tr pr)) :
    Calls Ybaf.prog 14 #[.slice a len cap, .int .i64 mn, .int .i64 mx] w fun e w' => Dec b len mn mx e ∧ Below w.heap.size w w' := by
  have hcv := conv44 h
  have hb := h.2.2.1
  have hsz := strB_size b len
  have hk := fun v => cpar_iff hb len v
  rw [← strB_list] at hk
  have HK := hide hk
  generalize strB b len = s at hcv hsz HK
  have HF := hide hF
  clear hk hF
  cases hp : Lib.parseIntB 64 s.data.toList with
  | ok v =>
    have hc := (HK.out v).1 hp
    have HP := hide (Any.strconv_ParseInt_10_at64_ok Ybaf.laysC174 s (by omega) v hp w)
    have HC := hide hc
    clear hc hp
    by_cases h1 : v < mn
    · go_enter Ybaf.func14, Ybaf.ntmps14
      go_wp2_with fail
      refine HP.out.mono ?_
      rintro e w1 ⟨rfl, hw1⟩
      have hb1 : Below w.heap.size w w1 := bytes_below hw1
      clear hw1
      go_wp2_with fail
      refine (range_any F mn mx w1 (by rw [hb1.tape]; exact HF.out)).mono ?_
      rintro e w2 ⟨⟨p, rfl⟩, hb2⟩
      go_wp2
      go_ret2
      exact ⟨.inr ⟨fun v' hv' => by rw [HC.out] at hv'; cases hv'; omega, p, rfl⟩, hb1.trans (hb2.mono hb1.size)⟩
    · by_cases h2 : mx < v
      · go_enter Ybaf.func14, Ybaf.ntmps14
        go_wp2_with fail
        refine HP.out.mono ?_
        rintro e w1 ⟨rfl, hw1⟩
        have hb1 : Below w.heap.size w w1 := bytes_below hw1
        clear hw1
        go_wp2_with fail
        refine (range_any F mn mx w1 (by rw [hb1.tape]; exact HF.out)).mono ?_
        rintro e w2 ⟨⟨p, rfl⟩, hb2⟩
        go_wp2
        go_ret2
        exact ⟨.inr ⟨fun v' hv' => by rw [HC.out] at hv'; cases hv'; omega, p, rfl⟩, hb1.trans (hb2.mono hb1.size)⟩
      · go_enter Ybaf.func14, Ybaf.ntmps14
        go_wp2_with (go_at_call 19; refine HP.out.mono ?_; rintro e w1 ⟨rfl, hw1⟩)
        go_ret2
        exact ⟨.inl ⟨v, HC.out, by omega, by omega, rfl⟩, bytes_below hw1⟩
  | range =>
    have HP := hide (Any.strconv_ParseInt_10_at64_range Ybaf.laysC174 s (by omega) hp (.iface tr pr) w hr (Or.inr ⟨tr, pr, rfl⟩))
    have HC : Hid (∀ v, cpar b len ≠ some v) := hide (fun v hv => by have := (HK.out v).2 hv; rw [hp] at this; cases this)
    generalize Lib.intSat 64 s.data.toList = sat at HP
    clear hp
    exact dec_err F a len cap b mn mx w s sat HF.out hcv HC.out (HP.out.mono fun e w1 ⟨N, h1, _, _, h4⟩ => ⟨N, h1, h4⟩)
  | _ =>
    have HP := hide (Any.strconv_ParseInt_10_at64_syntax Ybaf.laysC174 s (by omega) hp (.iface ts ps) w hs (Or.inr ⟨ts, ps, rfl⟩))
    have HC : Hid (∀ v, cpar b len ≠ some v) := hide (fun v hv => by have := (HK.out v).2 hv; rw [hp] at this; cases this)
    clear hp
    exact dec_err F a len cap b mn mx w s 0 HF.out hcv HC.out (HP.out.mono fun e w1 ⟨N, h1, _, _, h4⟩ => ⟨N, h1, h4⟩)
end Go.Proofs.YbulkdtayFmt
