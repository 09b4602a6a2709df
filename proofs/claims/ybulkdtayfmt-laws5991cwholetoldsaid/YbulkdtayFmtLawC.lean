import Derived.Test.YbulkdtayFmtDecC
import Derived.Test.YbulkdtayFmtDecodeC
import Derived.Deep.AppendLies
namespace Go.Proofs.YbulkdtayFmt
open Go.RowKit Go.Extern.Stop Go.Stop Go.Extern

def headAt (n : Nat) : Code → Bool
  | .region i _ _ => i == n
  | .seq a _ => headAt n a
  | _ => false
/-- The part of a body that begins with the statement whose first region is n. -/
def fromAt (n : Nat) : Code → Option Code
  | .seq a b => if headAt n a then some (.seq a b) else match fromAt n a with
    | some c => some c
    | none => fromAt n b
  | .block _ c => fromAt n c
  | .scope c => fromAt n c
  | .cond _ a b => match fromAt n a with
    | some c => some c
    | none => fromAt n b
  | _ => none

theorem append_44 (ty : TypeId) (p q : Option Addr) (n c m d : Nat) (w : World) : (Builtin.append_ #[22, 44] ty #[.slice p n c, .slice q m d]).run Ybaf.prog w = (Builtin.append_ #[22, 22] ty #[.slice p n c, .slice q m d]).run Ybaf.prog w := by
  simp [Builtin.append_, run_underlying Ybaf.underlying22, run_underlying Ybaf.underlying44]
theorem append_44_zero (ty : TypeId) (q : Option Addr) (d : Nat) (w : World) : (Builtin.append_ #[22, 44] ty #[.slice none 0 0, .slice q 0 d]).run Ybaf.prog w = .ok (.slice none 0 0) w := by
  cases q <;> simp [Builtin.append_, run_underlying Ybaf.underlying22, run_underlying Ybaf.underlying44, go_sem]
theorem wpList_append_44 (w : World) {ops : Array Oper} {rest : List Oper} {o : Oper} {a : Act} {Q : Exit → Act → World → Prop}
    (hg : o.guard = none) (s x : Operand) (hop : o.op = Op.call { callee := Callee.builtin Builtin.append, args := #[s, x], argTypes := #[22, 44] })
    (hs : a.eval s = .slice none 0 0) (p : Option Addr) (m c : Nat) (hx : a.eval x = .slice p m c) (r : Value) (w' : World) (hrun : (Builtin.append_ #[22, 44] o.type #[.slice none 0 0, .slice p m c]).run Ybaf.prog w = .ok r w')
    (hK : wpList Ybaf.prog ops Q rest (a.put o.dst r) w') : wpList Ybaf.prog ops Q (o :: rest) a w := by
  refine wpList_plain hg fun K hK' => ?_
  unfold Oper.wp
  simp [execOp, hop, resolve, invoke, builtin, hs, hx, hrun, Result.andThen]
  exact hK' _ _ hK
theorem IsBytes.kept {w w' : World} {a : Option Addr} {len cap : Nat} {b : Nat → Nat} (h : IsBytes w a len cap b) {B : Nat} (k : Below B w w') (hB : w.heap.size ≤ B) : IsBytes w' a len cap b := by
  obtain ⟨hlc, hcm, hb, hc⟩ := h
  refine ⟨hlc, hcm, hb, fun hp => ?_⟩
  obtain ⟨g, off, rfl, hcell⟩ := hc hp
  exact ⟨g, off, rfl, fun j hj => by rw [k.cell (Nat.lt_of_lt_of_le (by exact cell_lt (hcell j hj)) hB)]; exact hcell j hj⟩
theorem app_any {w : World} {a : Option Addr} {len cap : Nat} {b : Nat → Nat} (h : IsBytes w a len cap b) (hlen : len ≤ 1048576) : ∃ a2 cap2 w2, (Builtin.append_ #[22, 44] 22 #[.slice none 0 0, .slice a len cap]).run Ybaf.prog w = .ok (.slice a2 len cap2) w2 ∧ IsBytes w2 a2 len cap2 b ∧ Below w.heap.size w w2 := by
  obtain ⟨hlc, hcm, hb, hc⟩ := h
  rcases Nat.eq_zero_or_pos len with rfl | hp
  · exact ⟨none, 0, w, append_44_zero 22 a cap w, ⟨Nat.le_refl _, by omega, hb, fun h => absurd h (by omega)⟩, Below.refl _ _⟩
  · obtain ⟨g, off, rfl, hcell⟩ := hc hp
    obtain ⟨i0, hi, hz0, hz1, hz2⟩ := info_parts Ybaf.info5
    obtain ⟨g2, cap2, w2, hr, h2, h3, _, _⟩ := run_append_lies (P := Ybaf.prog) w 22 22 w.heap.size 5 i0 (.int .u8 0) 1 1 Ybaf.underlying22 hi hz0 hz1 hz2 rfl (by decide) (.slice none 0 0) 0 [] (World.ownsRow_nil _ _ _ _) ⟨g, off, none⟩ len cap (u8s b len) (by simp [u8s]) (fun j u hu => by
      have hj : j < len := by
        have := (List.getElem?_eq_some_iff.1 hu).1
        simpa [u8s] using this
      rw [u8s_at b len j hj] at hu
      rw [Addr.add_lit, ← hu]
      exact hcell j hj) (fun u hu => by simp [u8s] at hu; obtain ⟨x, _, rfl⟩ := hu; rfl) hp (by unfold maxLen; omega) (by omega) (Nat.le_refl _) _ rfl
    rw [Nat.zero_add, List.nil_append] at h2
    rw [Nat.zero_add] at hr
    exact ⟨some ⟨g2, 0, none⟩, cap2, w2, by rw [append_44]; exact hr, bytes_of_own hb h2, (Below.refl _ _).grown h3 (Nat.le_refl _) (fun k hk => by cases hk)⟩

/-- What the part behind the switch is told. -/
structure BegC (B0 : Nat) (w0 ws : World) (a : Option Addr) (len cap : Nat) (b : Nat → Nat) (ts tr : TypeId) (ps pr : Value) : Prop where
  i1 : IsBytes ws a len cap b
  es : ws.cell? ⟨1, 0, none⟩ = some (.iface ts ps)
  er : ws.cell? ⟨2, 0, none⟩ = some (.iface tr pr)
  bel : Below B0 w0 ws
  hi : B0 ≤ ws.heap.size
  len : len ≤ 1048576

set_option maxRecDepth 100000 in
set_option maxHeartbeats 4000000 in
theorem part12 (F : Interp) (Q0 : Exit → Act → World → Prop) (B0 : Nat) (w0 ws : World) (a : Option Addr) (len cap : Nat) (b : Nat → Nat) (mn mx : Int) (ts tr : TypeId) (ps pr : Value) (hF : Hid (F.answers ws.tape)) (H : Hid (BegC B0 w0 ws a len cap b ts tr ps pr))
    (u0 u1 u2 u5 u6 u7 u8 u9 u10 u12 u13 u14 u15 u16 u17 u18 u19 u20 u21 u22 u23 u24 u25 u26 u27 u28 u29 u30 u31 u32 u33 u34 u35 u36 u37 u38 u39 u40 u41 u42 u43 u44 u45 u46 u47 u48 u49 u50 u51 u52 u53 u54 u55 u56 u57 u58 u59 u60 u61 u62 u63 u64 u65 u66 u67 u68 u69 u70 u71 u72 u73 u74 u75 u76 u77 u78 u79 u80 : Value)
    (hQ : Hid (∀ (a : Act) (w' : World), a.tmps.getD 10 undef = .bool true → a.defers = [] → Below B0 w0 w' → Q0 .ret a w')) :
    Code.wp Ybaf.prog ((Ybaf.f4.body.bind (fromAt 12)).getD .skip) Q0 ⟨#[u0, u1, u2, .int .i64 mn, .int .i64 mx, u5, u6, u7, u8, u9, u10, .slice a len cap, u12, u13, u14, u15, u16, u17, u18, u19, u20, u21, u22, u23, u24, u25, u26, u27, u28, u29, u30, u31, u32, u33, u34, u35, u36, u37, u38, u39, u40, u41, u42, u43, u44, u45, u46, u47, u48, u49, u50, u51, u52, u53, u54, u55, u56, u57, u58, u59, u60, u61, u62, u63, u64, u65, u66, u67, u68, u69, u70, u71, u72, u73, u74, u75, u76, u77, u78, u79, u80], []⟩ ws := by
  conv => arg 2; whnf
  dsimp only
  obtain ⟨a2, cap2, w2, hap, hi2, hb2⟩ := app_any H.out.i1 H.out.len
  have HAP := hide hap
  clear hap
  have HI1 := hide (H.out.i1.kept hb2 (Nat.le_refl _))
  go_upto_region 13 with (at_builtin; refine wpList_append_44 _ rfl _ _ rfl rfl _ _ _ rfl _ _ HAP.out ?_)
  go_wp2_with fail
  refine (decode_any F a len cap b mn mx w2 (by rw [hb2.tape]; exact hF.out) HI1.out H.out.len ts tr ps pr ((hb2.cell (by exact cell_lt H.out.es)).trans H.out.es) ((hb2.cell (by exact cell_lt H.out.er)).trans H.out.er)).mono ?_
  rintro e w3 ⟨hdec, hb3⟩
  have HB3 := hide (hb2.trans (hb3.mono hb2.size))
  have s1 := conv_any (H.out.i1.kept HB3.out (Nat.le_refl _))
  have s2 := conv_any (hi2.kept hb3 (Nat.le_refl _))
  have HE := hide (equal_any _ _ _ _ s1 s2)
  have HP := hide (cparse_any a2 len cap2 b w3 (hi2.kept hb3 (Nat.le_refl _)))
  have HQ := hide (H.out.bel.trans (HB3.out.mono H.out.hi))
  clear s1 s2 hi2 hb2 hb3 HAP HI1 HB3
  rcases hdec with ⟨v, hv, h1, h2, rfl⟩ | ⟨hno, p, rfl⟩
  · rw [hv] at HP
    clear hv
    have e1 : (some v).getD 0 = v := rfl
    have e2 : (some v).isSome = true := rfl
    rw [e1, e2] at HP
    clear e1 e2
    go_wp2_with (first | (go_at_call 8; refine HE.out.mono ?_; rintro e w4 ⟨rfl, rfl⟩) | (go_at_call 15; refine HP.out.mono ?_; rintro e w4 ⟨rfl, rfl⟩))
    exact hQ.out _ _ rfl rfl HQ.out
  · cases hv : cpar b len with
    | none =>
      rw [hv] at HP
      clear hv hno
      have e1 : (none : Option Int).getD 0 = 0 := rfl
      have e2 : (none : Option Int).isSome = false := rfl
      rw [e1, e2] at HP
      clear e1 e2
      go_wp2_with (first | (go_at_call 8; refine HE.out.mono ?_; rintro e w4 ⟨rfl, rfl⟩) | (go_at_call 15; refine HP.out.mono ?_; rintro e w4 ⟨rfl, rfl⟩))
      exact hQ.out _ _ rfl rfl HQ.out
    | some v =>
      rw [hv] at HP
      have hn := hno v hv
      clear hv hno
      have e1 : (some v).getD 0 = v := rfl
      have e2 : (some v).isSome = true := rfl
      rw [e1, e2] at HP
      clear e1 e2
      by_cases h1 : mn ≤ v
      · have h2 : ¬ v ≤ mx := fun h => hn ⟨h1, h⟩
        clear hn
        go_wp2_with (first | (go_at_call 8; refine HE.out.mono ?_; rintro e w4 ⟨rfl, rfl⟩) | (go_at_call 15; refine HP.out.mono ?_; rintro e w4 ⟨rfl, rfl⟩))
        exact hQ.out _ _ rfl rfl HQ.out
      · clear hn
        go_wp2_with (first | (go_at_call 8; refine HE.out.mono ?_; rintro e w4 ⟨rfl, rfl⟩) | (go_at_call 15; refine HP.out.mono ?_; rintro e w4 ⟨rfl, rfl⟩))
        exact hQ.out _ _ rfl rfl HQ.out
set_option maxRecDepth 100000 in
set_option maxHeartbeats 2000000 in
theorem lawC_big (sel x : Int) (a : Option Addr) (len cap : Nat) (mn mx : Int) (w : World) (hbig : len ≤ 9223372036854775807) (h : 1048576 < len) :
    Calls Ybaf.prog 4 #[.int .u8 sel, .int .i64 x, .slice a len cap, .int .i64 mn, .int .i64 mx] w fun e w' => e = .returned (.bool true) ∧ Below w.heap.size w w' := by
  go_enter Ybaf.func4, Ybaf.ntmps4
  go_wp2
  go_ret
  exact ⟨rfl, Below.refl _ _⟩

set_option maxRecDepth 100000 in
set_option maxHeartbeats 4000000 in
theorem lawC_any (F : Interp) (sel : Nat) (x : Int) (a : Option Addr) (len cap : Nat) (b : Nat → Nat) (mn mx : Int) (ts tr : TypeId) (ps pr : Value) (w : World) (hsel : sel ≤ 255) (hx0 : -9223372036854775808 ≤ x) (hx1 : x ≤ 9223372036854775807) (hF : F.answers w.tape) (h : IsBytes w a len cap b) (hlen : len ≤ 1048576) (hs : w.cell? ⟨1, 0, none⟩ = some (.iface ts ps)) (hr : w.cell? ⟨2, 0, none⟩ = some (.iface tr pr)) :
    Calls Ybaf.prog 4 #[.int .u8 (sel : Int), .int .i64 x, .slice a len cap, .int .i64 mn, .int .i64 mx] w fun e w' => e = .returned (.bool true) ∧ Below w.heap.size w w' := by
  have HI := hide h
  have HS := hide hs
  have HR := hide hr
  have HF := hide hF
  clear h hs hr hF
  have hQ : Hid (∀ (a : Act) (w' : World), a.tmps.getD 10 undef = .bool true → a.defers = [] → Below w.heap.size w w' → bodyPost Ybaf.prog Ybaf.f4 (fun x w' => x = .returned (.bool true) ∧ Below w.heap.size w w') .ret a w') :=
    hide (fun a w' h1 h2 h3 => bodyPost_ret (v := .bool true) ((results_tmp rfl a.tmps Ybaf.prog w').trans (by rw [h1])) h2 ⟨rfl, h3⟩)
  have hld : decide ((1048576 : Int) < (len : Int)) = false := by simp; omega
  by_cases r0 : sel % 4 = 0
  · clear hx0 hx1
    have q0 : ((sel : Int) % 4 == 0) = true := by simp; omega
    have q1 : ((sel : Int) % 4 == 1) = false := by simp; omega
    have q2 : ((sel : Int) % 4 == 2) = false := by simp; omega
    go_enter Ybaf.func4, Ybaf.ntmps4
    go_upto_region 6 with fail
    rename_i K1 aK1 K0 aK0
    have HK := hide aK1
    clear aK1
    go_wp2
    refine HK.out _ _ ?_
    exact part12 F _ w.heap.size w w a len cap b mn mx ts tr ps pr HF (hide ⟨HI.out, HS.out, HR.out, Below.refl _ _, Nat.le_refl _, hlen⟩) _ _ _ _ _ _ _ _ _ _ _ _ _ _ _ _ _ _ _ _ _ _ _ _ _ _ _ _ _ _ _ _ _ _ _ _ _ _ _ _ _ _ _ _ _ _ _ _ _ _ _ _ _ _ _ _ _ _ _ _ _ _ _ _ _ _ _ _ _ _ _ _ _ _ _ _ _ _ hQ
  by_cases r1 : sel % 4 = 1
  · have HD := hide (dec_any x false 0 w hx0 hx1 (by omega))
    clear hx0 hx1
    have q0 : ((sel : Int) % 4 == 0) = false := by simp; omega
    have q1 : ((sel : Int) % 4 == 1) = true := by simp; omega
    have q2 : ((sel : Int) % 4 == 2) = false := by simp; omega
    go_enter Ybaf.func4, Ybaf.ntmps4
    go_upto_region 6 with fail
    rename_i K1 aK1 K0 aK0
    have HK := hide aK1
    clear aK1
    go_wp2_with (go_at_call 13; refine HD.out.mono ?_; rintro e w1 ⟨g1, len1, cap1, b1, rfl, hl1, hi1, hb1⟩)
    refine HK.out _ _ ?_
    exact part12 F _ w.heap.size w w1 (some ⟨g1, 0, none⟩) len1 cap1 b1 mn mx ts tr ps pr (hide (by rw [hb1.tape]; exact HF.out)) (hide ⟨hi1, (hb1.cell (by exact cell_lt HS.out)).trans HS.out, (hb1.cell (by exact cell_lt HR.out)).trans HR.out, hb1, hb1.size, hl1⟩) _ _ _ _ _ _ _ _ _ _ _ _ _ _ _ _ _ _ _ _ _ _ _ _ _ _ _ _ _ _ _ _ _ _ _ _ _ _ _ _ _ _ _ _ _ _ _ _ _ _ _ _ _ _ _ _ _ _ _ _ _ _ _ _ _ _ _ _ _ _ _ _ _ _ _ _ _ _ hQ
  by_cases r2 : sel % 4 = 2
  · have HD := hide (dec_any x true 0 w hx0 hx1 (by omega))
    clear hx0 hx1
    have q0 : ((sel : Int) % 4 == 0) = false := by simp; omega
    have q1 : ((sel : Int) % 4 == 1) = false := by simp; omega
    have q2 : ((sel : Int) % 4 == 2) = true := by simp; omega
    go_enter Ybaf.func4, Ybaf.ntmps4
    go_upto_region 6 with fail
    rename_i K1 aK1 K0 aK0
    have HK := hide aK1
    clear aK1
    go_wp2_with (go_at_call 13; refine HD.out.mono ?_; rintro e w1 ⟨g1, len1, cap1, b1, rfl, hl1, hi1, hb1⟩)
    refine HK.out _ _ ?_
    exact part12 F _ w.heap.size w w1 (some ⟨g1, 0, none⟩) len1 cap1 b1 mn mx ts tr ps pr (hide (by rw [hb1.tape]; exact HF.out)) (hide ⟨hi1, (hb1.cell (by exact cell_lt HS.out)).trans HS.out, (hb1.cell (by exact cell_lt HR.out)).trans HR.out, hb1, hb1.size, hl1⟩) _ _ _ _ _ _ _ _ _ _ _ _ _ _ _ _ _ _ _ _ _ _ _ _ _ _ _ _ _ _ _ _ _ _ _ _ _ _ _ _ _ _ _ _ _ _ _ _ _ _ _ _ _ _ _ _ _ _ _ _ _ _ _ _ _ _ _ _ _ _ _ _ _ _ _ _ _ _ hQ
  · have HD := hide (dec_any x false (sel / 4 % 3) w hx0 hx1 (by omega))
    have ez : ((sel / 4 % 3 : Nat) : Int) = (sel : Int) / 4 % 3 := by omega
    rw [ez] at HD
    clear ez hx0 hx1
    have q0 : ((sel : Int) % 4 == 0) = false := by simp; omega
    have q1 : ((sel : Int) % 4 == 1) = false := by simp; omega
    have q2 : ((sel : Int) % 4 == 2) = false := by simp; omega
    go_enter Ybaf.func4, Ybaf.ntmps4
    go_upto_region 6 with fail
    rename_i K1 aK1 K0 aK0
    have HK := hide aK1
    clear aK1
    go_wp2_with (go_at_call 13; refine HD.out.mono ?_; rintro e w1 ⟨g1, len1, cap1, b1, rfl, hl1, hi1, hb1⟩)
    refine HK.out _ _ ?_
    exact part12 F _ w.heap.size w w1 (some ⟨g1, 0, none⟩) len1 cap1 b1 mn mx ts tr ps pr (hide (by rw [hb1.tape]; exact HF.out)) (hide ⟨hi1, (hb1.cell (by exact cell_lt HS.out)).trans HS.out, (hb1.cell (by exact cell_lt HR.out)).trans HR.out, hb1, hb1.size, hl1⟩) _ _ _ _ _ _ _ _ _ _ _ _ _ _ _ _ _ _ _ _ _ _ _ _ _ _ _ _ _ _ _ _ _ _ _ _ _ _ _ _ _ _ _ _ _ _ _ _ _ _ _ _ _ _ _ _ _ _ _ _ _ _ _ _ _ _ _ _ _ _ _ _ _ _ _ _ _ _ hQ
end Go.Proofs.YbulkdtayFmt
