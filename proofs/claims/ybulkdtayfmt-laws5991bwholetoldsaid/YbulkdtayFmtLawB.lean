import Derived.Test.YbulkdtayFmtPart7c
namespace Go.Proofs.YbulkdtayFmt
open Go.RowKit Go.Extern.Stop Go.Stop Go.Extern

set_option maxRecDepth 100000 in
set_option maxHeartbeats 4000000 in
theorem part7_any (Q0 : Exit → Act → World → Prop) (B0 : Nat) (w0 ws : World) (a : Option Addr) (len cap : Nat) (a2 : Option Addr) (cap2 : Nat) (b : Nat → Nat) (ea : Addr) (F : Interp) (hF : Hid (F.answers ws.tape)) (t : Nat) (H : Hid (Beg B0 w0 ws a len cap a2 cap2 b ea))
    (u0 u1 u3 u4 u5 u6 u9 u10 u11 u12 u13 u14 u15 u16 u17 u18 u19 u20 u21 u22 u23 u24 u25 u26 u27 u28 u29 u30 u31 u32 u33 u34 u35 u36 u37 u38 u39 u40 u41 u42 u43 u44 u45 u46 u47 u48 u49 u50 u51 u52 u53 u54 u55 u56 u57 u58 u59 u60 u61 u62 u63 u64 u65 u66 u67 u68 u69 u70 u71 u72 u73 u74 u75 u76 u77 u78 u79 u80 u81 u82 u83 u84 u85 u86 u87 u88 u89 u90 u91 u92 u93 u94 u95 u96 u97 u98 u99 u100 u101 u102 u103 u104 u105 u106 u107 u108 u109 u110 u111 u112 u113 u114 u115 u116 u117 u118 u119 u120 u121 u122 u123 u124 u125 u126 u127 u128 u129 u130 u131 u132 u133 u134 u135 u136 u137 u138 u139 u140 u141 u142 : Value)
    (hQ : Hid (∀ (a : Act) (w' : World), a.tmps.getD 6 undef = .bool true → a.defers = [] → Below B0 w0 w' → Q0 .ret a w')) :
    Code.wp Ybaf.prog ((Ybaf.f3.body.bind (fromStmt 7)).getD .skip) Q0 ⟨#[u0, u1, .slice a len cap, u3, u4, u5, u6, .int .u8 (t : Int), .slice a2 len cap2, u9, u10, u11, u12, u13, u14, u15, u16, u17, u18, u19, u20, u21, u22, u23, u24, u25, u26, u27, u28, u29, u30, u31, u32, u33, u34, u35, u36, u37, u38, u39, u40, u41, u42, u43, u44, u45, u46, u47, u48, u49, u50, u51, u52, u53, u54, u55, u56, u57, u58, u59, u60, u61, u62, u63, u64, u65, u66, u67, u68, u69, u70, u71, u72, u73, u74, u75, u76, u77, u78, u79, u80, u81, u82, u83, u84, u85, u86, u87, u88, u89, u90, u91, u92, u93, u94, u95, u96, u97, u98, u99, u100, u101, u102, u103, u104, u105, u106, u107, u108, u109, u110, u111, u112, u113, u114, u115, u116, u117, u118, u119, u120, u121, u122, u123, u124, u125, u126, u127, u128, u129, u130, u131, u132, u133, u134, u135, u136, u137, u138, u139, u140, u141, u142], []⟩ ws := by
  by_cases h2 : t = 2
  · subst h2
    exact part7_int Q0 B0 w0 ws a len cap a2 cap2 b ea H _ _ _ _ _ _ _ _ _ _ _ _ _ _ _ _ _ _ _ _ _ _ _ _ _ _ _ _ _ _ _ _ _ _ _ _ _ _ _ _ _ _ _ _ _ _ _ _ _ _ _ _ _ _ _ _ _ _ _ _ _ _ _ _ _ _ _ _ _ _ _ _ _ _ _ _ _ _ _ _ _ _ _ _ _ _ _ _ _ _ _ _ _ _ _ _ _ _ _ _ _ _ _ _ _ _ _ _ _ _ _ _ _ _ _ _ _ _ _ _ _ _ _ _ _ _ _ _ _ _ _ _ _ _ _ _ _ _ _ _ hQ
  by_cases h65 : t = 65
  · subst h65
    exact part7_uns65 Q0 B0 w0 ws a len cap a2 cap2 b ea H _ _ _ _ _ _ _ _ _ _ _ _ _ _ _ _ _ _ _ _ _ _ _ _ _ _ _ _ _ _ _ _ _ _ _ _ _ _ _ _ _ _ _ _ _ _ _ _ _ _ _ _ _ _ _ _ _ _ _ _ _ _ _ _ _ _ _ _ _ _ _ _ _ _ _ _ _ _ _ _ _ _ _ _ _ _ _ _ _ _ _ _ _ _ _ _ _ _ _ _ _ _ _ _ _ _ _ _ _ _ _ _ _ _ _ _ _ _ _ _ _ _ _ _ _ _ _ _ _ _ _ _ _ _ _ _ _ _ _ _ hQ
  by_cases h66 : t = 66
  · subst h66
    exact part7_uns66 Q0 B0 w0 ws a len cap a2 cap2 b ea H _ _ _ _ _ _ _ _ _ _ _ _ _ _ _ _ _ _ _ _ _ _ _ _ _ _ _ _ _ _ _ _ _ _ _ _ _ _ _ _ _ _ _ _ _ _ _ _ _ _ _ _ _ _ _ _ _ _ _ _ _ _ _ _ _ _ _ _ _ _ _ _ _ _ _ _ _ _ _ _ _ _ _ _ _ _ _ _ _ _ _ _ _ _ _ _ _ _ _ _ _ _ _ _ _ _ _ _ _ _ _ _ _ _ _ _ _ _ _ _ _ _ _ _ _ _ _ _ _ _ _ _ _ _ _ _ _ _ _ _ hQ
  by_cases h67 : t = 67
  · subst h67
    exact part7_uns67 Q0 B0 w0 ws a len cap a2 cap2 b ea H _ _ _ _ _ _ _ _ _ _ _ _ _ _ _ _ _ _ _ _ _ _ _ _ _ _ _ _ _ _ _ _ _ _ _ _ _ _ _ _ _ _ _ _ _ _ _ _ _ _ _ _ _ _ _ _ _ _ _ _ _ _ _ _ _ _ _ _ _ _ _ _ _ _ _ _ _ _ _ _ _ _ _ _ _ _ _ _ _ _ _ _ _ _ _ _ _ _ _ _ _ _ _ _ _ _ _ _ _ _ _ _ _ _ _ _ _ _ _ _ _ _ _ _ _ _ _ _ _ _ _ _ _ _ _ _ _ _ _ _ hQ
  by_cases h70 : t = 70
  · subst h70
    exact part7_uns70 Q0 B0 w0 ws a len cap a2 cap2 b ea H _ _ _ _ _ _ _ _ _ _ _ _ _ _ _ _ _ _ _ _ _ _ _ _ _ _ _ _ _ _ _ _ _ _ _ _ _ _ _ _ _ _ _ _ _ _ _ _ _ _ _ _ _ _ _ _ _ _ _ _ _ _ _ _ _ _ _ _ _ _ _ _ _ _ _ _ _ _ _ _ _ _ _ _ _ _ _ _ _ _ _ _ _ _ _ _ _ _ _ _ _ _ _ _ _ _ _ _ _ _ _ _ _ _ _ _ _ _ _ _ _ _ _ _ _ _ _ _ _ _ _ _ _ _ _ _ _ _ _ _ hQ
  by_cases h4 : t = 4
  · subst h4
    exact part7_str4 Q0 B0 w0 ws a len cap a2 cap2 b ea H _ _ _ _ _ _ _ _ _ _ _ _ _ _ _ _ _ _ _ _ _ _ _ _ _ _ _ _ _ _ _ _ _ _ _ _ _ _ _ _ _ _ _ _ _ _ _ _ _ _ _ _ _ _ _ _ _ _ _ _ _ _ _ _ _ _ _ _ _ _ _ _ _ _ _ _ _ _ _ _ _ _ _ _ _ _ _ _ _ _ _ _ _ _ _ _ _ _ _ _ _ _ _ _ _ _ _ _ _ _ _ _ _ _ _ _ _ _ _ _ _ _ _ _ _ _ _ _ _ _ _ _ _ _ _ _ _ _ _ _ hQ
  by_cases h68 : t = 68
  · subst h68
    exact part7_str68 Q0 B0 w0 ws a len cap a2 cap2 b ea H _ _ _ _ _ _ _ _ _ _ _ _ _ _ _ _ _ _ _ _ _ _ _ _ _ _ _ _ _ _ _ _ _ _ _ _ _ _ _ _ _ _ _ _ _ _ _ _ _ _ _ _ _ _ _ _ _ _ _ _ _ _ _ _ _ _ _ _ _ _ _ _ _ _ _ _ _ _ _ _ _ _ _ _ _ _ _ _ _ _ _ _ _ _ _ _ _ _ _ _ _ _ _ _ _ _ _ _ _ _ _ _ _ _ _ _ _ _ _ _ _ _ _ _ _ _ _ _ _ _ _ _ _ _ _ _ _ _ _ _ hQ
  by_cases h64 : t = 64
  · subst h64
    by_cases hl : len = 4
    · exact part7_ip_ok Q0 B0 w0 ws a len cap a2 cap2 b ea (hide hl) H _ _ _ _ _ _ _ _ _ _ _ _ _ _ _ _ _ _ _ _ _ _ _ _ _ _ _ _ _ _ _ _ _ _ _ _ _ _ _ _ _ _ _ _ _ _ _ _ _ _ _ _ _ _ _ _ _ _ _ _ _ _ _ _ _ _ _ _ _ _ _ _ _ _ _ _ _ _ _ _ _ _ _ _ _ _ _ _ _ _ _ _ _ _ _ _ _ _ _ _ _ _ _ _ _ _ _ _ _ _ _ _ _ _ _ _ _ _ _ _ _ _ _ _ _ _ _ _ _ _ _ _ _ _ _ _ _ _ _ _ hQ
    · exact part7_ip_bad Q0 B0 w0 ws a len cap a2 cap2 b ea (hide hl) H _ _ _ _ _ _ _ _ _ _ _ _ _ _ _ _ _ _ _ _ _ _ _ _ _ _ _ _ _ _ _ _ _ _ _ _ _ _ _ _ _ _ _ _ _ _ _ _ _ _ _ _ _ _ _ _ _ _ _ _ _ _ _ _ _ _ _ _ _ _ _ _ _ _ _ _ _ _ _ _ _ _ _ _ _ _ _ _ _ _ _ _ _ _ _ _ _ _ _ _ _ _ _ _ _ _ _ _ _ _ _ _ _ _ _ _ _ _ _ _ _ _ _ _ _ _ _ _ _ _ _ _ _ _ _ _ _ _ _ _ hQ
  by_cases h5 : t = 5
  · subst h5
    by_cases hl : len = 0
    · exact part7_null5_ok Q0 B0 w0 ws a len cap a2 cap2 b ea (hide hl) H _ _ _ _ _ _ _ _ _ _ _ _ _ _ _ _ _ _ _ _ _ _ _ _ _ _ _ _ _ _ _ _ _ _ _ _ _ _ _ _ _ _ _ _ _ _ _ _ _ _ _ _ _ _ _ _ _ _ _ _ _ _ _ _ _ _ _ _ _ _ _ _ _ _ _ _ _ _ _ _ _ _ _ _ _ _ _ _ _ _ _ _ _ _ _ _ _ _ _ _ _ _ _ _ _ _ _ _ _ _ _ _ _ _ _ _ _ _ _ _ _ _ _ _ _ _ _ _ _ _ _ _ _ _ _ _ _ _ _ _ hQ
    · exact part7_null5_bad Q0 B0 w0 ws a len cap a2 cap2 b ea (hide hl) H _ _ _ _ _ _ _ _ _ _ _ _ _ _ _ _ _ _ _ _ _ _ _ _ _ _ _ _ _ _ _ _ _ _ _ _ _ _ _ _ _ _ _ _ _ _ _ _ _ _ _ _ _ _ _ _ _ _ _ _ _ _ _ _ _ _ _ _ _ _ _ _ _ _ _ _ _ _ _ _ _ _ _ _ _ _ _ _ _ _ _ _ _ _ _ _ _ _ _ _ _ _ _ _ _ _ _ _ _ _ _ _ _ _ _ _ _ _ _ _ _ _ _ _ _ _ _ _ _ _ _ _ _ _ _ _ _ _ _ _ hQ
  by_cases h128 : t = 128
  · subst h128
    by_cases hl : len = 0
    · exact part7_null128_ok Q0 B0 w0 ws a len cap a2 cap2 b ea (hide hl) H _ _ _ _ _ _ _ _ _ _ _ _ _ _ _ _ _ _ _ _ _ _ _ _ _ _ _ _ _ _ _ _ _ _ _ _ _ _ _ _ _ _ _ _ _ _ _ _ _ _ _ _ _ _ _ _ _ _ _ _ _ _ _ _ _ _ _ _ _ _ _ _ _ _ _ _ _ _ _ _ _ _ _ _ _ _ _ _ _ _ _ _ _ _ _ _ _ _ _ _ _ _ _ _ _ _ _ _ _ _ _ _ _ _ _ _ _ _ _ _ _ _ _ _ _ _ _ _ _ _ _ _ _ _ _ _ _ _ _ _ hQ
    · exact part7_null128_bad Q0 B0 w0 ws a len cap a2 cap2 b ea (hide hl) H _ _ _ _ _ _ _ _ _ _ _ _ _ _ _ _ _ _ _ _ _ _ _ _ _ _ _ _ _ _ _ _ _ _ _ _ _ _ _ _ _ _ _ _ _ _ _ _ _ _ _ _ _ _ _ _ _ _ _ _ _ _ _ _ _ _ _ _ _ _ _ _ _ _ _ _ _ _ _ _ _ _ _ _ _ _ _ _ _ _ _ _ _ _ _ _ _ _ _ _ _ _ _ _ _ _ _ _ _ _ _ _ _ _ _ _ _ _ _ _ _ _ _ _ _ _ _ _ _ _ _ _ _ _ _ _ _ _ _ _ hQ
  by_cases h129 : t = 129
  · subst h129
    by_cases hl : len = 0
    · exact part7_null129_ok Q0 B0 w0 ws a len cap a2 cap2 b ea (hide hl) H _ _ _ _ _ _ _ _ _ _ _ _ _ _ _ _ _ _ _ _ _ _ _ _ _ _ _ _ _ _ _ _ _ _ _ _ _ _ _ _ _ _ _ _ _ _ _ _ _ _ _ _ _ _ _ _ _ _ _ _ _ _ _ _ _ _ _ _ _ _ _ _ _ _ _ _ _ _ _ _ _ _ _ _ _ _ _ _ _ _ _ _ _ _ _ _ _ _ _ _ _ _ _ _ _ _ _ _ _ _ _ _ _ _ _ _ _ _ _ _ _ _ _ _ _ _ _ _ _ _ _ _ _ _ _ _ _ _ _ _ hQ
    · exact part7_null129_bad Q0 B0 w0 ws a len cap a2 cap2 b ea (hide hl) H _ _ _ _ _ _ _ _ _ _ _ _ _ _ _ _ _ _ _ _ _ _ _ _ _ _ _ _ _ _ _ _ _ _ _ _ _ _ _ _ _ _ _ _ _ _ _ _ _ _ _ _ _ _ _ _ _ _ _ _ _ _ _ _ _ _ _ _ _ _ _ _ _ _ _ _ _ _ _ _ _ _ _ _ _ _ _ _ _ _ _ _ _ _ _ _ _ _ _ _ _ _ _ _ _ _ _ _ _ _ _ _ _ _ _ _ _ _ _ _ _ _ _ _ _ _ _ _ _ _ _ _ _ _ _ _ _ _ _ _ hQ
  by_cases h130 : t = 130
  · subst h130
    by_cases hl : len = 0
    · exact part7_null130_ok Q0 B0 w0 ws a len cap a2 cap2 b ea (hide hl) H _ _ _ _ _ _ _ _ _ _ _ _ _ _ _ _ _ _ _ _ _ _ _ _ _ _ _ _ _ _ _ _ _ _ _ _ _ _ _ _ _ _ _ _ _ _ _ _ _ _ _ _ _ _ _ _ _ _ _ _ _ _ _ _ _ _ _ _ _ _ _ _ _ _ _ _ _ _ _ _ _ _ _ _ _ _ _ _ _ _ _ _ _ _ _ _ _ _ _ _ _ _ _ _ _ _ _ _ _ _ _ _ _ _ _ _ _ _ _ _ _ _ _ _ _ _ _ _ _ _ _ _ _ _ _ _ _ _ _ _ hQ
    · exact part7_null130_bad Q0 B0 w0 ws a len cap a2 cap2 b ea (hide hl) H _ _ _ _ _ _ _ _ _ _ _ _ _ _ _ _ _ _ _ _ _ _ _ _ _ _ _ _ _ _ _ _ _ _ _ _ _ _ _ _ _ _ _ _ _ _ _ _ _ _ _ _ _ _ _ _ _ _ _ _ _ _ _ _ _ _ _ _ _ _ _ _ _ _ _ _ _ _ _ _ _ _ _ _ _ _ _ _ _ _ _ _ _ _ _ _ _ _ _ _ _ _ _ _ _ _ _ _ _ _ _ _ _ _ _ _ _ _ _ _ _ _ _ _ _ _ _ _ _ _ _ _ _ _ _ _ _ _ _ _ hQ
  by_cases h6 : t = 6
  · subst h6
    exact part7_oid Q0 B0 w0 ws a len cap a2 cap2 b ea F hF H _ _ _ _ _ _ _ _ _ _ _ _ _ _ _ _ _ _ _ _ _ _ _ _ _ _ _ _ _ _ _ _ _ _ _ _ _ _ _ _ _ _ _ _ _ _ _ _ _ _ _ _ _ _ _ _ _ _ _ _ _ _ _ _ _ _ _ _ _ _ _ _ _ _ _ _ _ _ _ _ _ _ _ _ _ _ _ _ _ _ _ _ _ _ _ _ _ _ _ _ _ _ _ _ _ _ _ _ _ _ _ _ _ _ _ _ _ _ _ _ _ _ _ _ _ _ _ _ _ _ _ _ _ _ _ _ _ _ _ _ hQ
  exact part7_other Q0 B0 w0 ws a len cap a2 cap2 b ea t (hide (fun k hk => by simp at hk; rcases hk with rfl | rfl | rfl | rfl | rfl | rfl | rfl | rfl | rfl | rfl | rfl | rfl | rfl <;> assumption)) H _ _ _ _ _ _ _ _ _ _ _ _ _ _ _ _ _ _ _ _ _ _ _ _ _ _ _ _ _ _ _ _ _ _ _ _ _ _ _ _ _ _ _ _ _ _ _ _ _ _ _ _ _ _ _ _ _ _ _ _ _ _ _ _ _ _ _ _ _ _ _ _ _ _ _ _ _ _ _ _ _ _ _ _ _ _ _ _ _ _ _ _ _ _ _ _ _ _ _ _ _ _ _ _ _ _ _ _ _ _ _ _ _ _ _ _ _ _ _ _ _ _ _ _ _ _ _ _ _ _ _ _ _ _ _ _ _ _ _ _ hQ

set_option maxRecDepth 100000 in
set_option maxHeartbeats 2000000 in
theorem lawB_big (sel raw : Int) (a : Option Addr) (len cap : Nat) (w : World) (hbig : len ≤ 9223372036854775807) (h : 1048576 < len) :
    Calls Ybaf.prog 3 #[.int .u8 sel, .int .u8 raw, .slice a len cap] w fun e w' => e = .returned (.bool true) ∧ Below w.heap.size w w' := by
  go_enter Ybaf.func3, Ybaf.ntmps3
  go_wp2
  go_ret
  exact ⟨rfl, Below.refl _ _⟩

set_option maxRecDepth 100000 in
set_option maxHeartbeats 4000000 in
theorem lawB_any (F : Interp) (sel raw : Nat) (a : Option Addr) (len cap : Nat) (b : Nat → Nat) (ea : Addr) (w : World) (hsel : sel ≤ 255) (hF : F.answers w.tape) (h : IsBytes w a len cap b) (hlen : len ≤ 1048576) (hE : w.cell? ⟨0, 0, none⟩ = some (.iface 72 (.pointer (some ea)))) :
    Calls Ybaf.prog 3 #[.int .u8 (sel : Int), .int .u8 (raw : Int), .slice a len cap] w fun e w' => e = .returned (.bool true) ∧ Below w.heap.size w w' := by
  have HI := hide h
  have HE := hide hE
  have HF := hide hF
  clear h hE hF
  have hQ : Hid (∀ (a : Act) (w' : World), a.tmps.getD 6 undef = .bool true → a.defers = [] → Below w.heap.size w w' → bodyPost Ybaf.prog Ybaf.f3 (fun x w' => x = .returned (.bool true) ∧ Below w.heap.size w w') .ret a w') :=
    hide (fun a w' h1 h2 h3 => bodyPost_ret (v := .bool true) ((results_tmp rfl a.tmps Ybaf.prog w').trans (by rw [h1])) h2 ⟨rfl, h3⟩)
  have hld : decide ((1048576 : Int) < (len : Int)) = false := by simp; omega
  by_cases hs : sel % 16 < 13
  · have hsd : decide ((sel : Int) % 16 < 13) = true := by simp; omega
    have HT := hide (btag_any (sel % 16) w hs)
    have e16 : ((sel % 16 : Nat) : Int) = (sel : Int) % 16 := by omega
    rw [e16] at HT
    clear e16
    generalize tags.getD (sel % 16) 0 = t at HT
    go_enter Ybaf.func3, Ybaf.ntmps3
    go_upto_region 6 with (go_at_call 5; refine HT.out.mono ?_; rintro e w1 ⟨rfl, hb1⟩)
    rename_i K1 aK1
    have HK := hide aK1
    clear aK1
    go_wp2_with (go_at_call 6; refine (clone_any a len cap b w1 (HI.out.below hb1 (Nat.le_refl _)) hlen).mono ?_; rintro e w2 ⟨a2, cap2, rfl, hn2, hi2, hb2⟩)
    have HB := hide (hb1.trans (hb2.mono hb1.size))
    have HG : Hid (Beg w.heap.size w w2 a len cap a2 cap2 b ea) := hide ⟨HI.out.below HB.out (Nat.le_refl _), hi2, (HB.out.cell (by exact cell_lt HE.out)).trans HE.out, HB.out, HB.out.size, hn2, hlen⟩
    refine HK.out _ _ ?_
    exact part7_any _ w.heap.size w w2 a len cap a2 cap2 b ea F (hide (by rw [HB.out.tape]; exact HF.out)) t HG _ _ _ _ _ _ _ _ _ _ _ _ _ _ _ _ _ _ _ _ _ _ _ _ _ _ _ _ _ _ _ _ _ _ _ _ _ _ _ _ _ _ _ _ _ _ _ _ _ _ _ _ _ _ _ _ _ _ _ _ _ _ _ _ _ _ _ _ _ _ _ _ _ _ _ _ _ _ _ _ _ _ _ _ _ _ _ _ _ _ _ _ _ _ _ _ _ _ _ _ _ _ _ _ _ _ _ _ _ _ _ _ _ _ _ _ _ _ _ _ _ _ _ _ _ _ _ _ _ _ _ _ _ _ _ _ _ _ _ _ hQ
  · have hsd : decide ((sel : Int) % 16 < 13) = false := by simp; omega
    go_enter Ybaf.func3, Ybaf.ntmps3
    go_upto_region 6 with fail
    rename_i K1 aK1
    have HK := hide aK1
    clear aK1
    go_wp2_with (go_at_call 6; refine (clone_any a len cap b w (HI.out) hlen).mono ?_; rintro e w2 ⟨a2, cap2, rfl, hn2, hi2, hb2⟩)
    have HB := hide (hb2)
    have HG : Hid (Beg w.heap.size w w2 a len cap a2 cap2 b ea) := hide ⟨HI.out.below HB.out (Nat.le_refl _), hi2, (HB.out.cell (by exact cell_lt HE.out)).trans HE.out, HB.out, HB.out.size, hn2, hlen⟩
    refine HK.out _ _ ?_
    exact part7_any _ w.heap.size w w2 a len cap a2 cap2 b ea F (hide (by rw [HB.out.tape]; exact HF.out)) raw HG _ _ _ _ _ _ _ _ _ _ _ _ _ _ _ _ _ _ _ _ _ _ _ _ _ _ _ _ _ _ _ _ _ _ _ _ _ _ _ _ _ _ _ _ _ _ _ _ _ _ _ _ _ _ _ _ _ _ _ _ _ _ _ _ _ _ _ _ _ _ _ _ _ _ _ _ _ _ _ _ _ _ _ _ _ _ _ _ _ _ _ _ _ _ _ _ _ _ _ _ _ _ _ _ _ _ _ _ _ _ _ _ _ _ _ _ _ _ _ _ _ _ _ _ _ _ _ _ _ _ _ _ _ _ _ _ _ _ _ _ hQ
end Go.Proofs.YbulkdtayFmt
