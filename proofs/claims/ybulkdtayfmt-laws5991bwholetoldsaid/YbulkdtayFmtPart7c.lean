import Derived.Test.YbulkdtayFmtPart7b
namespace Go.Proofs.YbulkdtayFmt
open Go.RowKit Go.Extern.Stop Go.Stop Go.Extern

theorem setCell_block {w : World} {k : Nat} {x0 x1 x2 x3 x4 v : Value} (h : w.heap[k]? = some (.cells #[x0, x1, x2, x3, x4] 30 (0, 0))) : (w.setCell ⟨k, 4, none⟩ v).heap[k]? = some (.cells #[x0, x1, x2, x3, v] 30 (0, 0)) := by
  simp [World.setCell, Array.getElem?_modify, h]

theorem alike6 {B0 : Nat} {w0 ws w1 w3 : World} {a : Option Addr} {len cap : Nat} {a2 : Option Addr} {cap2 : Nat} {b : Nat → Nat} {ea : Addr} {v v2 : Value} {o : Option (List Nat)} (H : Beg B0 w0 ws a len cap a2 cap2 b ea) (hb : Below ws.heap.size ws w1) (hr : OidRow w1 v o)
    (hr2 : OidRow w3 v2 o) (hb3 : Below ((w1.alloc (.cells #[.int .u8 6, .int .i64 0, .int .u64 0, .string ⟨#[]⟩, v] 30)).alloc (.cells #[.int .u8 6, .int .i64 0, .int .u64 0, .string ⟨#[]⟩, .slice none 0 0] 30)).heap.size ((w1.alloc (.cells #[.int .u8 6, .int .i64 0, .int .u64 0, .string ⟨#[]⟩, v] 30)).alloc (.cells #[.int .u8 6, .int .i64 0, .int .u64 0, .string ⟨#[]⟩, .slice none 0 0] 30)) w3) :
    w3.heap[w1.heap.size + 1]? = some (.cells #[.int .u8 6, .int .i64 0, .int .u64 0, .string ⟨#[]⟩, .slice none 0 0] 30 (0, 0)) ∧
    Alike B0 w0 (w3.setCell ⟨w1.heap.size + 1, 4, none⟩ v2) w1.heap.size (w1.heap.size + 1) ea 6 0 0 ⟨#[]⟩ v v2 o := by
  have hs := hb.size
  have hsz : ((w1.alloc (.cells #[.int .u8 6, .int .i64 0, .int .u64 0, .string ⟨#[]⟩, v] 30)).alloc (.cells #[.int .u8 6, .int .i64 0, .int .u64 0, .string ⟨#[]⟩, .slice none 0 0] 30)).heap.size = w1.heap.size + 2 := by simp
  have kA : Below w1.heap.size w1 ((w1.alloc (.cells #[.int .u8 6, .int .i64 0, .int .u64 0, .string ⟨#[]⟩, v] 30)).alloc (.cells #[.int .u8 6, .int .i64 0, .int .u64 0, .string ⟨#[]⟩, .slice none 0 0] 30)) := ((Below.refl _ _).alloc (Nat.le_refl _) _).alloc (by simp) _
  have kB : Below w1.heap.size w1 w3 := kA.trans (hb3.mono (by rw [hsz]; omega))
  have g : w3.heap[w1.heap.size]? = some (.cells #[.int .u8 6, .int .i64 0, .int .u64 0, .string ⟨#[]⟩, v] 30 (0, 0)) := by
    rw [hb3.block _ (by rw [hsz]; omega), Below.heap_alloc _ _ _ (by simp)]
    exact heap_alloc_new _ _
  have h1 : w3.heap[w1.heap.size + 1]? = some (.cells #[.int .u8 6, .int .i64 0, .int .u64 0, .string ⟨#[]⟩, .slice none 0 0] 30 (0, 0)) := by
    rw [hb3.block _ (by rw [hsz]; omega)]
    have := heap_alloc_new (w1.alloc (.cells #[.int .u8 6, .int .i64 0, .int .u64 0, .string ⟨#[]⟩, v] 30)) (.cells #[.int .u8 6, .int .i64 0, .int .u64 0, .string ⟨#[]⟩, .slice none 0 0] 30)
    simpa using this
  have c0 : w3.cell? ⟨w1.heap.size + 1, 0, none⟩ = some (.int .u8 6) := by rw [cell_at h1]; rfl
  have s3 : w1.heap.size + 2 ≤ w3.heap.size := by have := hb3.size; omega
  have kC : Below ws.heap.size ws (w3.setCell ⟨w1.heap.size + 1, 4, none⟩ v2) := (hb.trans (kB.mono hs)).setCell (p := ⟨w1.heap.size + 1, 4, none⟩) (by show ws.heap.size ≤ w1.heap.size + 1; omega) v2
  have ho : ∀ k, k ≠ w1.heap.size + 1 → k ≠ w1.heap.size + 1 → (w3.setCell ⟨w1.heap.size + 1, 4, none⟩ v2).heap[k]? = w3.heap[k]? := fun k hk _ => Below.heap_setCell _ _ _ _ hk
  have hss : (w3.setCell ⟨w1.heap.size + 1, 4, none⟩ v2).heap.size = w3.heap.size := by simp [World.setCell]
  refine ⟨h1, ?_, setCell_block h1, ?_, ?_, (kC.cell (by exact cell_lt H.e)).trans H.e, H.bel.trans (kC.mono H.hi), by have := H.hi; omega⟩
  · rw [ho _ (by omega) (by omega)]; exact g
  · exact (hr.below kB).keep c0 c0 hss ho
  · exact hr2.keep c0 c0 hss ho

set_option maxRecDepth 100000 in
set_option maxHeartbeats 4000000 in
theorem part7_oid (Q0 : Exit → Act → World → Prop) (B0 : Nat) (w0 ws : World) (a : Option Addr) (len cap : Nat) (a2 : Option Addr) (cap2 : Nat) (b : Nat → Nat) (ea : Addr) (F : Interp) (hF : Hid (F.answers ws.tape)) (H : Hid (Beg B0 w0 ws a len cap a2 cap2 b ea))
    (u0 u1 u3 u4 u5 u6 u9 u10 u11 u12 u13 u14 u15 u16 u17 u18 u19 u20 u21 u22 u23 u24 u25 u26 u27 u28 u29 u30 u31 u32 u33 u34 u35 u36 u37 u38 u39 u40 u41 u42 u43 u44 u45 u46 u47 u48 u49 u50 u51 u52 u53 u54 u55 u56 u57 u58 u59 u60 u61 u62 u63 u64 u65 u66 u67 u68 u69 u70 u71 u72 u73 u74 u75 u76 u77 u78 u79 u80 u81 u82 u83 u84 u85 u86 u87 u88 u89 u90 u91 u92 u93 u94 u95 u96 u97 u98 u99 u100 u101 u102 u103 u104 u105 u106 u107 u108 u109 u110 u111 u112 u113 u114 u115 u116 u117 u118 u119 u120 u121 u122 u123 u124 u125 u126 u127 u128 u129 u130 u131 u132 u133 u134 u135 u136 u137 u138 u139 u140 u141 u142 : Value)
    (hQ : Hid (∀ (a : Act) (w' : World), a.tmps.getD 6 undef = .bool true → a.defers = [] → Below B0 w0 w' → Q0 .ret a w')) :
    Code.wp Ybaf.prog ((Ybaf.f3.body.bind (fromStmt 7)).getD .skip) Q0 ⟨#[u0, u1, .slice a len cap, u3, u4, u5, u6, .int .u8 6, .slice a2 len cap2, u9, u10, u11, u12, u13, u14, u15, u16, u17, u18, u19, u20, u21, u22, u23, u24, u25, u26, u27, u28, u29, u30, u31, u32, u33, u34, u35, u36, u37, u38, u39, u40, u41, u42, u43, u44, u45, u46, u47, u48, u49, u50, u51, u52, u53, u54, u55, u56, u57, u58, u59, u60, u61, u62, u63, u64, u65, u66, u67, u68, u69, u70, u71, u72, u73, u74, u75, u76, u77, u78, u79, u80, u81, u82, u83, u84, u85, u86, u87, u88, u89, u90, u91, u92, u93, u94, u95, u96, u97, u98, u99, u100, u101, u102, u103, u104, u105, u106, u107, u108, u109, u110, u111, u112, u113, u114, u115, u116, u117, u118, u119, u120, u121, u122, u123, u124, u125, u126, u127, u128, u129, u130, u131, u132, u133, u134, u135, u136, u137, u138, u139, u140, u141, u142], []⟩ ws := by
  have HP := hide (pval_oid F a len cap b ea ws hF.out H.out.i1 H.out.len H.out.e)
  have HA := hide (fun w' (h : IsBytes w' a len cap b) => boid_any a len cap b w' h H.out.len)
  generalize oidAns b len = A at HP HA
  conv => arg 2; whnf
  dsimp only
  have hq := eql_nil22
  have hn := H.out.nl
  go_upto_region 8 with (go_at_call 7; refine HP.out.mono ?_; rintro e w1 ⟨v, rfl, hrow, hb1⟩; have HR := hide hrow; obtain ⟨vp, vn, vc, rfl⟩ := hrow.form; clear hrow)
  have HB1 := hide (hb1.trans ((Below.refl ws.heap.size w1).alloc hb1.size (.cells #[.int .u8 6, .int .i64 0, .int .u64 0, .string ⟨#[]⟩, .slice vp vn vc] 30)))
  have s1 := conv_any (H.out.i1.below HB1.out (Nat.le_refl _))
  have s2 := conv_any (H.out.i2.below HB1.out (Nat.le_refl _))
  have HC := hide (equal_any _ _ _ _ s1 s2)
  clear s1 s2
  go_upto_region 14 with (go_at_call 8; refine HC.out.mono ?_; rintro e w2 ⟨rfl, rfl⟩)
  rename_i K1 aK1 K0 aK0
  have HK := hide aK1
  clear aK1
  have HB2 := hide (HB1.out.trans ((Below.refl ws.heap.size (w1.alloc (.cells #[.int .u8 6, .int .i64 0, .int .u64 0, .string ⟨#[]⟩, .slice vp vn vc] 30))).alloc HB1.out.size (.cells #[.int .u8 6, .int .i64 0, .int .u64 0, .string ⟨#[]⟩, .slice none 0 0] 30)))
  go_wp2_with fail
  refine (HA.out _ (H.out.i1.below HB2.out (Nat.le_refl _))).mono ?_
  rintro e w3 ⟨v2, rfl, hrow2, hb3⟩
  obtain ⟨h1, hal⟩ := alike6 H.out hb1 HR.out hrow2 hb3
  have HAL := hide hal
  obtain ⟨xp, xn, xc, rfl⟩ := hrow2.form
  clear hrow2 hal hb3
  have b4 : w3.cell? ⟨w1.heap.size + 1, 4, none⟩ = some (.slice none 0 0) := by rw [cell_at h1]; rfl
  have f1 := fun j => frozen_at h1 j
  clear h1
  go_wp2
  refine HK.out _ _ ?_
  exact part35 Q0 B0 w0 _ _ _ ea 6 0 0 ⟨#[]⟩ (.slice vp vn vc) (.slice xp xn xc) A A.isSome _ rfl HAL _ _ _ _ _ _ _ _ _ _ _ _ _ _ _ _ _ _ _ _ _ _ _ _ _ _ _ _ _ _ _ _ _ _ _ _ _ _ _ _ _ _ _ _ _ _ _ _ _ _ _ _ _ _ _ _ _ _ _ _ _ _ _ _ _ _ _ _ _ _ _ _ _ _ _ _ _ _ _ _ _ _ _ _ _ _ _ _ _ _ _ _ _ _ _ _ _ _ _ _ _ _ _ _ _ _ _ _ _ _ _ _ _ _ _ _ _ _ _ _ _ _ _ _ _ _ _ _ _ _ _ _ _ _ _ _ _ _ _ hQ
end Go.Proofs.YbulkdtayFmt
