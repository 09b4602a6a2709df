import Derived.Test.YbulkdtayFmtPart35
import Derived.Test.YbulkdtayFmtBytes
namespace Go.Proofs.YbulkdtayFmt
open Go.RowKit Go.Extern.Stop Go.Stop Go.Extern

/-- What the part behind the clone is told. -/
structure Beg (B0 : Nat) (w0 ws : World) (a : Option Addr) (len cap : Nat) (a2 : Option Addr) (cap2 : Nat) (b : Nat → Nat) (ea : Addr) : Prop where
  i1 : IsBytes ws a len cap b
  i2 : IsBytes ws a2 len cap2 b
  e : ws.cell? ⟨0, 0, none⟩ = some (.iface 72 (.pointer (some ea)))
  bel : Below B0 w0 ws
  hi : B0 ≤ ws.heap.size
  nl : a2.isNone = a.isNone
  len : len ≤ 1048576

theorem alike0 {B0 : Nat} {w0 ws w1 : World} {a : Option Addr} {len cap : Nat} {a2 : Option Addr} {cap2 : Nat} {b : Nat → Nat} {ea : Addr} {t I U : Int} {S : ByteArray} (H : Beg B0 w0 ws a len cap a2 cap2 b ea) (hb : Below ws.heap.size ws w1) :
    Alike B0 w0 ((w1.alloc (.cells #[.int .u8 t, .int .i64 I, .int .u64 U, .string S, .slice none 0 0] 30)).alloc (.cells #[.int .u8 t, .int .i64 I, .int .u64 U, .string S, .slice none 0 0] 30)) w1.heap.size (w1.heap.size + 1) ea t I U S (.slice none 0 0) (.slice none 0 0) none := by
  have hs := hb.size
  have k : Below ws.heap.size ws ((w1.alloc (.cells #[.int .u8 t, .int .i64 I, .int .u64 U, .string S, .slice none 0 0] 30)).alloc (.cells #[.int .u8 t, .int .i64 I, .int .u64 U, .string S, .slice none 0 0] 30)) := (hb.alloc hs _).alloc (by simp; omega) _
  refine ⟨?_, ?_, rfl, rfl, (k.cell (by exact cell_lt H.e)).trans H.e, H.bel.trans (k.mono H.hi), by have := H.hi; simp; omega⟩
  · rw [Below.heap_alloc _ _ _ (by simp)]
    exact heap_alloc_new _ _
  · have := heap_alloc_new (w1.alloc (.cells #[.int .u8 t, .int .i64 I, .int .u64 U, .string S, .slice none 0 0] 30)) (.cells #[.int .u8 t, .int .i64 I, .int .u64 U, .string S, .slice none 0 0] 30)
    simpa using this

set_option maxRecDepth 100000 in
set_option maxHeartbeats 4000000 in
theorem part7_int (Q0 : Exit → Act → World → Prop) (B0 : Nat) (w0 ws : World) (a : Option Addr) (len cap : Nat) (a2 : Option Addr) (cap2 : Nat) (b : Nat → Nat) (ea : Addr) (H : Hid (Beg B0 w0 ws a len cap a2 cap2 b ea))
    (u0 u1 u3 u4 u5 u6 u9 u10 u11 u12 u13 u14 u15 u16 u17 u18 u19 u20 u21 u22 u23 u24 u25 u26 u27 u28 u29 u30 u31 u32 u33 u34 u35 u36 u37 u38 u39 u40 u41 u42 u43 u44 u45 u46 u47 u48 u49 u50 u51 u52 u53 u54 u55 u56 u57 u58 u59 u60 u61 u62 u63 u64 u65 u66 u67 u68 u69 u70 u71 u72 u73 u74 u75 u76 u77 u78 u79 u80 u81 u82 u83 u84 u85 u86 u87 u88 u89 u90 u91 u92 u93 u94 u95 u96 u97 u98 u99 u100 u101 u102 u103 u104 u105 u106 u107 u108 u109 u110 u111 u112 u113 u114 u115 u116 u117 u118 u119 u120 u121 u122 u123 u124 u125 u126 u127 u128 u129 u130 u131 u132 u133 u134 u135 u136 u137 u138 u139 u140 u141 u142 : Value)
    (hQ : Hid (∀ (a : Act) (w' : World), a.tmps.getD 6 undef = .bool true → a.defers = [] → Below B0 w0 w' → Q0 .ret a w')) :
    Code.wp Ybaf.prog ((Ybaf.f3.body.bind (fromStmt 7)).getD .skip) Q0 ⟨#[u0, u1, .slice a len cap, u3, u4, u5, u6, .int .u8 2, .slice a2 len cap2, u9, u10, u11, u12, u13, u14, u15, u16, u17, u18, u19, u20, u21, u22, u23, u24, u25, u26, u27, u28, u29, u30, u31, u32, u33, u34, u35, u36, u37, u38, u39, u40, u41, u42, u43, u44, u45, u46, u47, u48, u49, u50, u51, u52, u53, u54, u55, u56, u57, u58, u59, u60, u61, u62, u63, u64, u65, u66, u67, u68, u69, u70, u71, u72, u73, u74, u75, u76, u77, u78, u79, u80, u81, u82, u83, u84, u85, u86, u87, u88, u89, u90, u91, u92, u93, u94, u95, u96, u97, u98, u99, u100, u101, u102, u103, u104, u105, u106, u107, u108, u109, u110, u111, u112, u113, u114, u115, u116, u117, u118, u119, u120, u121, u122, u123, u124, u125, u126, u127, u128, u129, u130, u131, u132, u133, u134, u135, u136, u137, u138, u139, u140, u141, u142], []⟩ ws := by
  have HP := hide (pval_int a len cap b ea ws H.out.i1 H.out.e)
  have HA := hide (fun w' (h : IsBytes w' a len cap b) => bint_any a len cap b w' h)
  generalize intAns b len (-2147483648) 2147483647 = A at HP HA
  conv => arg 2; whnf
  dsimp only
  have hq := eql_nil22
  have hn := H.out.nl
  go_upto_region 8 with (go_at_call 7; refine HP.out.mono ?_; rintro e w1 ⟨rfl, hb1⟩)
  have HB1 := hide (hb1.trans ((Below.refl ws.heap.size w1).alloc hb1.size (.cells #[.int .u8 2, .int .i64 (A.getD 0), .int .u64 0, .string ⟨#[]⟩, .slice none 0 0] 30)))
  have s1 := conv_any (H.out.i1.below HB1.out (Nat.le_refl _))
  have s2 := conv_any (H.out.i2.below HB1.out (Nat.le_refl _))
  have HC := hide (equal_any _ _ _ _ s1 s2)
  clear s1 s2
  go_upto_region 14 with (go_at_call 8; refine HC.out.mono ?_; rintro e w2 ⟨rfl, rfl⟩)
  rename_i K1 aK1 K0 aK0
  have HK := hide aK1
  clear aK1
  have HB2 := hide (HB1.out.trans ((Below.refl ws.heap.size (w1.alloc (.cells #[.int .u8 2, .int .i64 (A.getD 0), .int .u64 0, .string ⟨#[]⟩, .slice none 0 0] 30))).alloc HB1.out.size (.cells #[.int .u8 2, .int .i64 0, .int .u64 0, .string ⟨#[]⟩, .slice none 0 0] 30)))
  go_wp2_with (go_at_call 9; refine (HA.out _ (H.out.i1.below HB2.out (Nat.le_refl _))).mono ?_; rintro e w3 ⟨rfl, rfl⟩)
  refine HK.out _ _ ?_
  exact part35 Q0 B0 w0 _ _ _ ea 2 (A.getD 0) 0 ⟨#[]⟩ (.slice none 0 0) (.slice none 0 0) none A.isSome _ rfl (hide (alike0 H.out hb1)) _ _ _ _ _ _ _ _ _ _ _ _ _ _ _ _ _ _ _ _ _ _ _ _ _ _ _ _ _ _ _ _ _ _ _ _ _ _ _ _ _ _ _ _ _ _ _ _ _ _ _ _ _ _ _ _ _ _ _ _ _ _ _ _ _ _ _ _ _ _ _ _ _ _ _ _ _ _ _ _ _ _ _ _ _ _ _ _ _ _ _ _ _ _ _ _ _ _ _ _ _ _ _ _ _ _ _ _ _ _ _ _ _ _ _ _ _ _ _ _ _ _ _ _ _ _ _ _ _ _ _ _ _ _ _ _ _ _ _ hQ

set_option maxRecDepth 100000 in
set_option maxHeartbeats 4000000 in
theorem part7_uns65 (Q0 : Exit → Act → World → Prop) (B0 : Nat) (w0 ws : World) (a : Option Addr) (len cap : Nat) (a2 : Option Addr) (cap2 : Nat) (b : Nat → Nat) (ea : Addr) (H : Hid (Beg B0 w0 ws a len cap a2 cap2 b ea))
    (u0 u1 u3 u4 u5 u6 u9 u10 u11 u12 u13 u14 u15 u16 u17 u18 u19 u20 u21 u22 u23 u24 u25 u26 u27 u28 u29 u30 u31 u32 u33 u34 u35 u36 u37 u38 u39 u40 u41 u42 u43 u44 u45 u46 u47 u48 u49 u50 u51 u52 u53 u54 u55 u56 u57 u58 u59 u60 u61 u62 u63 u64 u65 u66 u67 u68 u69 u70 u71 u72 u73 u74 u75 u76 u77 u78 u79 u80 u81 u82 u83 u84 u85 u86 u87 u88 u89 u90 u91 u92 u93 u94 u95 u96 u97 u98 u99 u100 u101 u102 u103 u104 u105 u106 u107 u108 u109 u110 u111 u112 u113 u114 u115 u116 u117 u118 u119 u120 u121 u122 u123 u124 u125 u126 u127 u128 u129 u130 u131 u132 u133 u134 u135 u136 u137 u138 u139 u140 u141 u142 : Value)
    (hQ : Hid (∀ (a : Act) (w' : World), a.tmps.getD 6 undef = .bool true → a.defers = [] → Below B0 w0 w' → Q0 .ret a w')) :
    Code.wp Ybaf.prog ((Ybaf.f3.body.bind (fromStmt 7)).getD .skip) Q0 ⟨#[u0, u1, .slice a len cap, u3, u4, u5, u6, .int .u8 65, .slice a2 len cap2, u9, u10, u11, u12, u13, u14, u15, u16, u17, u18, u19, u20, u21, u22, u23, u24, u25, u26, u27, u28, u29, u30, u31, u32, u33, u34, u35, u36, u37, u38, u39, u40, u41, u42, u43, u44, u45, u46, u47, u48, u49, u50, u51, u52, u53, u54, u55, u56, u57, u58, u59, u60, u61, u62, u63, u64, u65, u66, u67, u68, u69, u70, u71, u72, u73, u74, u75, u76, u77, u78, u79, u80, u81, u82, u83, u84, u85, u86, u87, u88, u89, u90, u91, u92, u93, u94, u95, u96, u97, u98, u99, u100, u101, u102, u103, u104, u105, u106, u107, u108, u109, u110, u111, u112, u113, u114, u115, u116, u117, u118, u119, u120, u121, u122, u123, u124, u125, u126, u127, u128, u129, u130, u131, u132, u133, u134, u135, u136, u137, u138, u139, u140, u141, u142], []⟩ ws := by
  have HP := hide (pval_uns65 a len cap b ea ws H.out.i1 H.out.e)
  have HA := hide (fun w' (h : IsBytes w' a len cap b) => buns_any a len cap b 4294967295 w' h)
  generalize unsAns b len 4294967295 = A at HP HA
  conv => arg 2; whnf
  dsimp only
  have hq := eql_nil22
  have hn := H.out.nl
  go_upto_region 8 with (go_at_call 7; refine HP.out.mono ?_; rintro e w1 ⟨rfl, hb1⟩)
  have HB1 := hide (hb1.trans ((Below.refl ws.heap.size w1).alloc hb1.size (.cells #[.int .u8 65, .int .i64 0, .int .u64 ((A.getD 0 : Nat) : Int), .string ⟨#[]⟩, .slice none 0 0] 30)))
  have s1 := conv_any (H.out.i1.below HB1.out (Nat.le_refl _))
  have s2 := conv_any (H.out.i2.below HB1.out (Nat.le_refl _))
  have HC := hide (equal_any _ _ _ _ s1 s2)
  clear s1 s2
  go_upto_region 14 with (go_at_call 8; refine HC.out.mono ?_; rintro e w2 ⟨rfl, rfl⟩)
  rename_i K1 aK1 K0 aK0
  have HK := hide aK1
  clear aK1
  have HB2 := hide (HB1.out.trans ((Below.refl ws.heap.size (w1.alloc (.cells #[.int .u8 65, .int .i64 0, .int .u64 ((A.getD 0 : Nat) : Int), .string ⟨#[]⟩, .slice none 0 0] 30))).alloc HB1.out.size (.cells #[.int .u8 65, .int .i64 0, .int .u64 0, .string ⟨#[]⟩, .slice none 0 0] 30)))
  go_wp2_with (go_at_call 11; refine (HA.out _ (H.out.i1.below HB2.out (Nat.le_refl _))).mono ?_; rintro e w3 ⟨rfl, rfl⟩)
  refine HK.out _ _ ?_
  exact part35 Q0 B0 w0 _ _ _ ea 65 0 ((A.getD 0 : Nat) : Int) ⟨#[]⟩ (.slice none 0 0) (.slice none 0 0) none A.isSome _ rfl (hide (alike0 H.out hb1)) _ _ _ _ _ _ _ _ _ _ _ _ _ _ _ _ _ _ _ _ _ _ _ _ _ _ _ _ _ _ _ _ _ _ _ _ _ _ _ _ _ _ _ _ _ _ _ _ _ _ _ _ _ _ _ _ _ _ _ _ _ _ _ _ _ _ _ _ _ _ _ _ _ _ _ _ _ _ _ _ _ _ _ _ _ _ _ _ _ _ _ _ _ _ _ _ _ _ _ _ _ _ _ _ _ _ _ _ _ _ _ _ _ _ _ _ _ _ _ _ _ _ _ _ _ _ _ _ _ _ _ _ _ _ _ _ _ _ _ hQ

set_option maxRecDepth 100000 in
set_option maxHeartbeats 4000000 in
theorem part7_uns66 (Q0 : Exit → Act → World → Prop) (B0 : Nat) (w0 ws : World) (a : Option Addr) (len cap : Nat) (a2 : Option Addr) (cap2 : Nat) (b : Nat → Nat) (ea : Addr) (H : Hid (Beg B0 w0 ws a len cap a2 cap2 b ea))
    (u0 u1 u3 u4 u5 u6 u9 u10 u11 u12 u13 u14 u15 u16 u17 u18 u19 u20 u21 u22 u23 u24 u25 u26 u27 u28 u29 u30 u31 u32 u33 u34 u35 u36 u37 u38 u39 u40 u41 u42 u43 u44 u45 u46 u47 u48 u49 u50 u51 u52 u53 u54 u55 u56 u57 u58 u59 u60 u61 u62 u63 u64 u65 u66 u67 u68 u69 u70 u71 u72 u73 u74 u75 u76 u77 u78 u79 u80 u81 u82 u83 u84 u85 u86 u87 u88 u89 u90 u91 u92 u93 u94 u95 u96 u97 u98 u99 u100 u101 u102 u103 u104 u105 u106 u107 u108 u109 u110 u111 u112 u113 u114 u115 u116 u117 u118 u119 u120 u121 u122 u123 u124 u125 u126 u127 u128 u129 u130 u131 u132 u133 u134 u135 u136 u137 u138 u139 u140 u141 u142 : Value)
    (hQ : Hid (∀ (a : Act) (w' : World), a.tmps.getD 6 undef = .bool true → a.defers = [] → Below B0 w0 w' → Q0 .ret a w')) :
    Code.wp Ybaf.prog ((Ybaf.f3.body.bind (fromStmt 7)).getD .skip) Q0 ⟨#[u0, u1, .slice a len cap, u3, u4, u5, u6, .int .u8 66, .slice a2 len cap2, u9, u10, u11, u12, u13, u14, u15, u16, u17, u18, u19, u20, u21, u22, u23, u24, u25, u26, u27, u28, u29, u30, u31, u32, u33, u34, u35, u36, u37, u38, u39, u40, u41, u42, u43, u44, u45, u46, u47, u48, u49, u50, u51, u52, u53, u54, u55, u56, u57, u58, u59, u60, u61, u62, u63, u64, u65, u66, u67, u68, u69, u70, u71, u72, u73, u74, u75, u76, u77, u78, u79, u80, u81, u82, u83, u84, u85, u86, u87, u88, u89, u90, u91, u92, u93, u94, u95, u96, u97, u98, u99, u100, u101, u102, u103, u104, u105, u106, u107, u108, u109, u110, u111, u112, u113, u114, u115, u116, u117, u118, u119, u120, u121, u122, u123, u124, u125, u126, u127, u128, u129, u130, u131, u132, u133, u134, u135, u136, u137, u138, u139, u140, u141, u142], []⟩ ws := by
  have HP := hide (pval_uns66 a len cap b ea ws H.out.i1 H.out.e)
  have HA := hide (fun w' (h : IsBytes w' a len cap b) => buns_any a len cap b 4294967295 w' h)
  generalize unsAns b len 4294967295 = A at HP HA
  conv => arg 2; whnf
  dsimp only
  have hq := eql_nil22
  have hn := H.out.nl
  go_upto_region 8 with (go_at_call 7; refine HP.out.mono ?_; rintro e w1 ⟨rfl, hb1⟩)
  have HB1 := hide (hb1.trans ((Below.refl ws.heap.size w1).alloc hb1.size (.cells #[.int .u8 66, .int .i64 0, .int .u64 ((A.getD 0 : Nat) : Int), .string ⟨#[]⟩, .slice none 0 0] 30)))
  have s1 := conv_any (H.out.i1.below HB1.out (Nat.le_refl _))
  have s2 := conv_any (H.out.i2.below HB1.out (Nat.le_refl _))
  have HC := hide (equal_any _ _ _ _ s1 s2)
  clear s1 s2
  go_upto_region 14 with (go_at_call 8; refine HC.out.mono ?_; rintro e w2 ⟨rfl, rfl⟩)
  rename_i K1 aK1 K0 aK0
  have HK := hide aK1
  clear aK1
  have HB2 := hide (HB1.out.trans ((Below.refl ws.heap.size (w1.alloc (.cells #[.int .u8 66, .int .i64 0, .int .u64 ((A.getD 0 : Nat) : Int), .string ⟨#[]⟩, .slice none 0 0] 30))).alloc HB1.out.size (.cells #[.int .u8 66, .int .i64 0, .int .u64 0, .string ⟨#[]⟩, .slice none 0 0] 30)))
  go_wp2_with (go_at_call 11; refine (HA.out _ (H.out.i1.below HB2.out (Nat.le_refl _))).mono ?_; rintro e w3 ⟨rfl, rfl⟩)
  refine HK.out _ _ ?_
  exact part35 Q0 B0 w0 _ _ _ ea 66 0 ((A.getD 0 : Nat) : Int) ⟨#[]⟩ (.slice none 0 0) (.slice none 0 0) none A.isSome _ rfl (hide (alike0 H.out hb1)) _ _ _ _ _ _ _ _ _ _ _ _ _ _ _ _ _ _ _ _ _ _ _ _ _ _ _ _ _ _ _ _ _ _ _ _ _ _ _ _ _ _ _ _ _ _ _ _ _ _ _ _ _ _ _ _ _ _ _ _ _ _ _ _ _ _ _ _ _ _ _ _ _ _ _ _ _ _ _ _ _ _ _ _ _ _ _ _ _ _ _ _ _ _ _ _ _ _ _ _ _ _ _ _ _ _ _ _ _ _ _ _ _ _ _ _ _ _ _ _ _ _ _ _ _ _ _ _ _ _ _ _ _ _ _ _ _ _ _ hQ

set_option maxRecDepth 100000 in
set_option maxHeartbeats 4000000 in
theorem part7_uns67 (Q0 : Exit → Act → World → Prop) (B0 : Nat) (w0 ws : World) (a : Option Addr) (len cap : Nat) (a2 : Option Addr) (cap2 : Nat) (b : Nat → Nat) (ea : Addr) (H : Hid (Beg B0 w0 ws a len cap a2 cap2 b ea))
    (u0 u1 u3 u4 u5 u6 u9 u10 u11 u12 u13 u14 u15 u16 u17 u18 u19 u20 u21 u22 u23 u24 u25 u26 u27 u28 u29 u30 u31 u32 u33 u34 u35 u36 u37 u38 u39 u40 u41 u42 u43 u44 u45 u46 u47 u48 u49 u50 u51 u52 u53 u54 u55 u56 u57 u58 u59 u60 u61 u62 u63 u64 u65 u66 u67 u68 u69 u70 u71 u72 u73 u74 u75 u76 u77 u78 u79 u80 u81 u82 u83 u84 u85 u86 u87 u88 u89 u90 u91 u92 u93 u94 u95 u96 u97 u98 u99 u100 u101 u102 u103 u104 u105 u106 u107 u108 u109 u110 u111 u112 u113 u114 u115 u116 u117 u118 u119 u120 u121 u122 u123 u124 u125 u126 u127 u128 u129 u130 u131 u132 u133 u134 u135 u136 u137 u138 u139 u140 u141 u142 : Value)
    (hQ : Hid (∀ (a : Act) (w' : World), a.tmps.getD 6 undef = .bool true → a.defers = [] → Below B0 w0 w' → Q0 .ret a w')) :
    Code.wp Ybaf.prog ((Ybaf.f3.body.bind (fromStmt 7)).getD .skip) Q0 ⟨#[u0, u1, .slice a len cap, u3, u4, u5, u6, .int .u8 67, .slice a2 len cap2, u9, u10, u11, u12, u13, u14, u15, u16, u17, u18, u19, u20, u21, u22, u23, u24, u25, u26, u27, u28, u29, u30, u31, u32, u33, u34, u35, u36, u37, u38, u39, u40, u41, u42, u43, u44, u45, u46, u47, u48, u49, u50, u51, u52, u53, u54, u55, u56, u57, u58, u59, u60, u61, u62, u63, u64, u65, u66, u67, u68, u69, u70, u71, u72, u73, u74, u75, u76, u77, u78, u79, u80, u81, u82, u83, u84, u85, u86, u87, u88, u89, u90, u91, u92, u93, u94, u95, u96, u97, u98, u99, u100, u101, u102, u103, u104, u105, u106, u107, u108, u109, u110, u111, u112, u113, u114, u115, u116, u117, u118, u119, u120, u121, u122, u123, u124, u125, u126, u127, u128, u129, u130, u131, u132, u133, u134, u135, u136, u137, u138, u139, u140, u141, u142], []⟩ ws := by
  have HP := hide (pval_uns67 a len cap b ea ws H.out.i1 H.out.e)
  have HA := hide (fun w' (h : IsBytes w' a len cap b) => buns_any a len cap b 4294967295 w' h)
  generalize unsAns b len 4294967295 = A at HP HA
  conv => arg 2; whnf
  dsimp only
  have hq := eql_nil22
  have hn := H.out.nl
  go_upto_region 8 with (go_at_call 7; refine HP.out.mono ?_; rintro e w1 ⟨rfl, hb1⟩)
  have HB1 := hide (hb1.trans ((Below.refl ws.heap.size w1).alloc hb1.size (.cells #[.int .u8 67, .int .i64 0, .int .u64 ((A.getD 0 : Nat) : Int), .string ⟨#[]⟩, .slice none 0 0] 30)))
  have s1 := conv_any (H.out.i1.below HB1.out (Nat.le_refl _))
  have s2 := conv_any (H.out.i2.below HB1.out (Nat.le_refl _))
  have HC := hide (equal_any _ _ _ _ s1 s2)
  clear s1 s2
  go_upto_region 14 with (go_at_call 8; refine HC.out.mono ?_; rintro e w2 ⟨rfl, rfl⟩)
  rename_i K1 aK1 K0 aK0
  have HK := hide aK1
  clear aK1
  have HB2 := hide (HB1.out.trans ((Below.refl ws.heap.size (w1.alloc (.cells #[.int .u8 67, .int .i64 0, .int .u64 ((A.getD 0 : Nat) : Int), .string ⟨#[]⟩, .slice none 0 0] 30))).alloc HB1.out.size (.cells #[.int .u8 67, .int .i64 0, .int .u64 0, .string ⟨#[]⟩, .slice none 0 0] 30)))
  go_wp2_with (go_at_call 11; refine (HA.out _ (H.out.i1.below HB2.out (Nat.le_refl _))).mono ?_; rintro e w3 ⟨rfl, rfl⟩)
  refine HK.out _ _ ?_
  exact part35 Q0 B0 w0 _ _ _ ea 67 0 ((A.getD 0 : Nat) : Int) ⟨#[]⟩ (.slice none 0 0) (.slice none 0 0) none A.isSome _ rfl (hide (alike0 H.out hb1)) _ _ _ _ _ _ _ _ _ _ _ _ _ _ _ _ _ _ _ _ _ _ _ _ _ _ _ _ _ _ _ _ _ _ _ _ _ _ _ _ _ _ _ _ _ _ _ _ _ _ _ _ _ _ _ _ _ _ _ _ _ _ _ _ _ _ _ _ _ _ _ _ _ _ _ _ _ _ _ _ _ _ _ _ _ _ _ _ _ _ _ _ _ _ _ _ _ _ _ _ _ _ _ _ _ _ _ _ _ _ _ _ _ _ _ _ _ _ _ _ _ _ _ _ _ _ _ _ _ _ _ _ _ _ _ _ _ _ _ hQ

set_option maxRecDepth 100000 in
set_option maxHeartbeats 4000000 in
theorem part7_uns70 (Q0 : Exit → Act → World → Prop) (B0 : Nat) (w0 ws : World) (a : Option Addr) (len cap : Nat) (a2 : Option Addr) (cap2 : Nat) (b : Nat → Nat) (ea : Addr) (H : Hid (Beg B0 w0 ws a len cap a2 cap2 b ea))
    (u0 u1 u3 u4 u5 u6 u9 u10 u11 u12 u13 u14 u15 u16 u17 u18 u19 u20 u21 u22 u23 u24 u25 u26 u27 u28 u29 u30 u31 u32 u33 u34 u35 u36 u37 u38 u39 u40 u41 u42 u43 u44 u45 u46 u47 u48 u49 u50 u51 u52 u53 u54 u55 u56 u57 u58 u59 u60 u61 u62 u63 u64 u65 u66 u67 u68 u69 u70 u71 u72 u73 u74 u75 u76 u77 u78 u79 u80 u81 u82 u83 u84 u85 u86 u87 u88 u89 u90 u91 u92 u93 u94 u95 u96 u97 u98 u99 u100 u101 u102 u103 u104 u105 u106 u107 u108 u109 u110 u111 u112 u113 u114 u115 u116 u117 u118 u119 u120 u121 u122 u123 u124 u125 u126 u127 u128 u129 u130 u131 u132 u133 u134 u135 u136 u137 u138 u139 u140 u141 u142 : Value)
    (hQ : Hid (∀ (a : Act) (w' : World), a.tmps.getD 6 undef = .bool true → a.defers = [] → Below B0 w0 w' → Q0 .ret a w')) :
    Code.wp Ybaf.prog ((Ybaf.f3.body.bind (fromStmt 7)).getD .skip) Q0 ⟨#[u0, u1, .slice a len cap, u3, u4, u5, u6, .int .u8 70, .slice a2 len cap2, u9, u10, u11, u12, u13, u14, u15, u16, u17, u18, u19, u20, u21, u22, u23, u24, u25, u26, u27, u28, u29, u30, u31, u32, u33, u34, u35, u36, u37, u38, u39, u40, u41, u42, u43, u44, u45, u46, u47, u48, u49, u50, u51, u52, u53, u54, u55, u56, u57, u58, u59, u60, u61, u62, u63, u64, u65, u66, u67, u68, u69, u70, u71, u72, u73, u74, u75, u76, u77, u78, u79, u80, u81, u82, u83, u84, u85, u86, u87, u88, u89, u90, u91, u92, u93, u94, u95, u96, u97, u98, u99, u100, u101, u102, u103, u104, u105, u106, u107, u108, u109, u110, u111, u112, u113, u114, u115, u116, u117, u118, u119, u120, u121, u122, u123, u124, u125, u126, u127, u128, u129, u130, u131, u132, u133, u134, u135, u136, u137, u138, u139, u140, u141, u142], []⟩ ws := by
  have HP := hide (pval_uns70 a len cap b ea ws H.out.i1 H.out.e)
  have HA := hide (fun w' (h : IsBytes w' a len cap b) => buns_any a len cap b 18446744073709551615 w' h)
  generalize unsAns b len 18446744073709551615 = A at HP HA
  conv => arg 2; whnf
  dsimp only
  have hq := eql_nil22
  have hn := H.out.nl
  go_upto_region 8 with (go_at_call 7; refine HP.out.mono ?_; rintro e w1 ⟨rfl, hb1⟩)
  have HB1 := hide (hb1.trans ((Below.refl ws.heap.size w1).alloc hb1.size (.cells #[.int .u8 70, .int .i64 0, .int .u64 ((A.getD 0 : Nat) : Int), .string ⟨#[]⟩, .slice none 0 0] 30)))
  have s1 := conv_any (H.out.i1.below HB1.out (Nat.le_refl _))
  have s2 := conv_any (H.out.i2.below HB1.out (Nat.le_refl _))
  have HC := hide (equal_any _ _ _ _ s1 s2)
  clear s1 s2
  go_upto_region 14 with (go_at_call 8; refine HC.out.mono ?_; rintro e w2 ⟨rfl, rfl⟩)
  rename_i K1 aK1 K0 aK0
  have HK := hide aK1
  clear aK1
  have HB2 := hide (HB1.out.trans ((Below.refl ws.heap.size (w1.alloc (.cells #[.int .u8 70, .int .i64 0, .int .u64 ((A.getD 0 : Nat) : Int), .string ⟨#[]⟩, .slice none 0 0] 30))).alloc HB1.out.size (.cells #[.int .u8 70, .int .i64 0, .int .u64 0, .string ⟨#[]⟩, .slice none 0 0] 30)))
  go_wp2_with (go_at_call 11; refine (HA.out _ (H.out.i1.below HB2.out (Nat.le_refl _))).mono ?_; rintro e w3 ⟨rfl, rfl⟩)
  refine HK.out _ _ ?_
  exact part35 Q0 B0 w0 _ _ _ ea 70 0 ((A.getD 0 : Nat) : Int) ⟨#[]⟩ (.slice none 0 0) (.slice none 0 0) none A.isSome _ rfl (hide (alike0 H.out hb1)) _ _ _ _ _ _ _ _ _ _ _ _ _ _ _ _ _ _ _ _ _ _ _ _ _ _ _ _ _ _ _ _ _ _ _ _ _ _ _ _ _ _ _ _ _ _ _ _ _ _ _ _ _ _ _ _ _ _ _ _ _ _ _ _ _ _ _ _ _ _ _ _ _ _ _ _ _ _ _ _ _ _ _ _ _ _ _ _ _ _ _ _ _ _ _ _ _ _ _ _ _ _ _ _ _ _ _ _ _ _ _ _ _ _ _ _ _ _ _ _ _ _ _ _ _ _ _ _ _ _ _ _ _ _ _ _ _ _ _ hQ

end Go.Proofs.YbulkdtayFmt
