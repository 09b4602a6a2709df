import Derived.Test.YbulkdtayFmtPart7
namespace Go.Proofs.YbulkdtayFmt
open Go.RowKit Go.Extern.Stop Go.Stop Go.Extern

set_option maxRecDepth 100000 in
set_option maxHeartbeats 4000000 in
theorem part7_str4 (Q0 : Exit → Act → World → Prop) (B0 : Nat) (w0 ws : World) (a : Option Addr) (len cap : Nat) (a2 : Option Addr) (cap2 : Nat) (b : Nat → Nat) (ea : Addr) (H : Hid (Beg B0 w0 ws a len cap a2 cap2 b ea))
    (u0 u1 u3 u4 u5 u6 u9 u10 u11 u12 u13 u14 u15 u16 u17 u18 u19 u20 u21 u22 u23 u24 u25 u26 u27 u28 u29 u30 u31 u32 u33 u34 u35 u36 u37 u38 u39 u40 u41 u42 u43 u44 u45 u46 u47 u48 u49 u50 u51 u52 u53 u54 u55 u56 u57 u58 u59 u60 u61 u62 u63 u64 u65 u66 u67 u68 u69 u70 u71 u72 u73 u74 u75 u76 u77 u78 u79 u80 u81 u82 u83 u84 u85 u86 u87 u88 u89 u90 u91 u92 u93 u94 u95 u96 u97 u98 u99 u100 u101 u102 u103 u104 u105 u106 u107 u108 u109 u110 u111 u112 u113 u114 u115 u116 u117 u118 u119 u120 u121 u122 u123 u124 u125 u126 u127 u128 u129 u130 u131 u132 u133 u134 u135 u136 u137 u138 u139 u140 u141 u142 : Value)
    (hQ : Hid (∀ (a : Act) (w' : World), a.tmps.getD 6 undef = .bool true → a.defers = [] → Below B0 w0 w' → Q0 .ret a w')) :
    Code.wp Ybaf.prog ((Ybaf.f3.body.bind (fromStmt 7)).getD .skip) Q0 ⟨#[u0, u1, .slice a len cap, u3, u4, u5, u6, .int .u8 4, .slice a2 len cap2, u9, u10, u11, u12, u13, u14, u15, u16, u17, u18, u19, u20, u21, u22, u23, u24, u25, u26, u27, u28, u29, u30, u31, u32, u33, u34, u35, u36, u37, u38, u39, u40, u41, u42, u43, u44, u45, u46, u47, u48, u49, u50, u51, u52, u53, u54, u55, u56, u57, u58, u59, u60, u61, u62, u63, u64, u65, u66, u67, u68, u69, u70, u71, u72, u73, u74, u75, u76, u77, u78, u79, u80, u81, u82, u83, u84, u85, u86, u87, u88, u89, u90, u91, u92, u93, u94, u95, u96, u97, u98, u99, u100, u101, u102, u103, u104, u105, u106, u107, u108, u109, u110, u111, u112, u113, u114, u115, u116, u117, u118, u119, u120, u121, u122, u123, u124, u125, u126, u127, u128, u129, u130, u131, u132, u133, u134, u135, u136, u137, u138, u139, u140, u141, u142], []⟩ ws := by
  have HP := hide (pval_str4 a len cap b ws H.out.i1)
  conv => arg 2; whnf
  dsimp only
  have hq := eql_nil22
  have hn := H.out.nl
  go_upto_region 8 with (go_at_call 7; refine HP.out.mono ?_; rintro e w1 ⟨rfl, hb1⟩)
  have HB1 := hide (hb1.trans ((Below.refl ws.heap.size w1).alloc hb1.size (.cells #[.int .u8 4, .int .i64 0, .int .u64 0, .string (strB b len), .slice none 0 0] 30)))
  have s1 := conv_any (H.out.i1.below HB1.out (Nat.le_refl _))
  have s2 := conv_any (H.out.i2.below HB1.out (Nat.le_refl _))
  have HC := hide (equal_any _ _ _ _ s1 s2)
  clear s1 s2
  go_upto_region 14 with (go_at_call 8; refine HC.out.mono ?_; rintro e w2 ⟨rfl, rfl⟩)
  rename_i K1 aK1 K0 aK0
  have HK := hide aK1
  clear aK1
  have HB2 := hide (HB1.out.trans ((Below.refl ws.heap.size (w1.alloc (.cells #[.int .u8 4, .int .i64 0, .int .u64 0, .string (strB b len), .slice none 0 0] 30))).alloc HB1.out.size (.cells #[.int .u8 4, .int .i64 0, .int .u64 0, .string ⟨#[]⟩, .slice none 0 0] 30)))
  have s3 := conv_any (H.out.i1.below HB2.out (Nat.le_refl _))
  go_wp2
  refine HK.out _ _ ?_
  exact part35 Q0 B0 w0 _ _ _ ea 4 0 0 (strB b len) (.slice none 0 0) (.slice none 0 0) none true _ rfl (hide (alike0 H.out hb1)) _ _ _ _ _ _ _ _ _ _ _ _ _ _ _ _ _ _ _ _ _ _ _ _ _ _ _ _ _ _ _ _ _ _ _ _ _ _ _ _ _ _ _ _ _ _ _ _ _ _ _ _ _ _ _ _ _ _ _ _ _ _ _ _ _ _ _ _ _ _ _ _ _ _ _ _ _ _ _ _ _ _ _ _ _ _ _ _ _ _ _ _ _ _ _ _ _ _ _ _ _ _ _ _ _ _ _ _ _ _ _ _ _ _ _ _ _ _ _ _ _ _ _ _ _ _ _ _ _ _ _ _ _ _ _ _ _ _ _ hQ

set_option maxRecDepth 100000 in
set_option maxHeartbeats 4000000 in
theorem part7_str68 (Q0 : Exit → Act → World → Prop) (B0 : Nat) (w0 ws : World) (a : Option Addr) (len cap : Nat) (a2 : Option Addr) (cap2 : Nat) (b : Nat → Nat) (ea : Addr) (H : Hid (Beg B0 w0 ws a len cap a2 cap2 b ea))
    (u0 u1 u3 u4 u5 u6 u9 u10 u11 u12 u13 u14 u15 u16 u17 u18 u19 u20 u21 u22 u23 u24 u25 u26 u27 u28 u29 u30 u31 u32 u33 u34 u35 u36 u37 u38 u39 u40 u41 u42 u43 u44 u45 u46 u47 u48 u49 u50 u51 u52 u53 u54 u55 u56 u57 u58 u59 u60 u61 u62 u63 u64 u65 u66 u67 u68 u69 u70 u71 u72 u73 u74 u75 u76 u77 u78 u79 u80 u81 u82 u83 u84 u85 u86 u87 u88 u89 u90 u91 u92 u93 u94 u95 u96 u97 u98 u99 u100 u101 u102 u103 u104 u105 u106 u107 u108 u109 u110 u111 u112 u113 u114 u115 u116 u117 u118 u119 u120 u121 u122 u123 u124 u125 u126 u127 u128 u129 u130 u131 u132 u133 u134 u135 u136 u137 u138 u139 u140 u141 u142 : Value)
    (hQ : Hid (∀ (a : Act) (w' : World), a.tmps.getD 6 undef = .bool true → a.defers = [] → Below B0 w0 w' → Q0 .ret a w')) :
    Code.wp Ybaf.prog ((Ybaf.f3.body.bind (fromStmt 7)).getD .skip) Q0 ⟨#[u0, u1, .slice a len cap, u3, u4, u5, u6, .int .u8 68, .slice a2 len cap2, u9, u10, u11, u12, u13, u14, u15, u16, u17, u18, u19, u20, u21, u22, u23, u24, u25, u26, u27, u28, u29, u30, u31, u32, u33, u34, u35, u36, u37, u38, u39, u40, u41, u42, u43, u44, u45, u46, u47, u48, u49, u50, u51, u52, u53, u54, u55, u56, u57, u58, u59, u60, u61, u62, u63, u64, u65, u66, u67, u68, u69, u70, u71, u72, u73, u74, u75, u76, u77, u78, u79, u80, u81, u82, u83, u84, u85, u86, u87, u88, u89, u90, u91, u92, u93, u94, u95, u96, u97, u98, u99, u100, u101, u102, u103, u104, u105, u106, u107, u108, u109, u110, u111, u112, u113, u114, u115, u116, u117, u118, u119, u120, u121, u122, u123, u124, u125, u126, u127, u128, u129, u130, u131, u132, u133, u134, u135, u136, u137, u138, u139, u140, u141, u142], []⟩ ws := by
  have HP := hide (pval_str68 a len cap b ws H.out.i1)
  conv => arg 2; whnf
  dsimp only
  have hq := eql_nil22
  have hn := H.out.nl
  go_upto_region 8 with (go_at_call 7; refine HP.out.mono ?_; rintro e w1 ⟨rfl, hb1⟩)
  have HB1 := hide (hb1.trans ((Below.refl ws.heap.size w1).alloc hb1.size (.cells #[.int .u8 68, .int .i64 0, .int .u64 0, .string (strB b len), .slice none 0 0] 30)))
  have s1 := conv_any (H.out.i1.below HB1.out (Nat.le_refl _))
  have s2 := conv_any (H.out.i2.below HB1.out (Nat.le_refl _))
  have HC := hide (equal_any _ _ _ _ s1 s2)
  clear s1 s2
  go_upto_region 14 with (go_at_call 8; refine HC.out.mono ?_; rintro e w2 ⟨rfl, rfl⟩)
  rename_i K1 aK1 K0 aK0
  have HK := hide aK1
  clear aK1
  have HB2 := hide (HB1.out.trans ((Below.refl ws.heap.size (w1.alloc (.cells #[.int .u8 68, .int .i64 0, .int .u64 0, .string (strB b len), .slice none 0 0] 30))).alloc HB1.out.size (.cells #[.int .u8 68, .int .i64 0, .int .u64 0, .string ⟨#[]⟩, .slice none 0 0] 30)))
  have s3 := conv_any (H.out.i1.below HB2.out (Nat.le_refl _))
  go_wp2
  refine HK.out _ _ ?_
  exact part35 Q0 B0 w0 _ _ _ ea 68 0 0 (strB b len) (.slice none 0 0) (.slice none 0 0) none true _ rfl (hide (alike0 H.out hb1)) _ _ _ _ _ _ _ _ _ _ _ _ _ _ _ _ _ _ _ _ _ _ _ _ _ _ _ _ _ _ _ _ _ _ _ _ _ _ _ _ _ _ _ _ _ _ _ _ _ _ _ _ _ _ _ _ _ _ _ _ _ _ _ _ _ _ _ _ _ _ _ _ _ _ _ _ _ _ _ _ _ _ _ _ _ _ _ _ _ _ _ _ _ _ _ _ _ _ _ _ _ _ _ _ _ _ _ _ _ _ _ _ _ _ _ _ _ _ _ _ _ _ _ _ _ _ _ _ _ _ _ _ _ _ _ _ _ _ _ hQ

set_option maxRecDepth 100000 in
set_option maxHeartbeats 4000000 in
theorem part7_ip_ok (Q0 : Exit → Act → World → Prop) (B0 : Nat) (w0 ws : World) (a : Option Addr) (len cap : Nat) (a2 : Option Addr) (cap2 : Nat) (b : Nat → Nat) (ea : Addr) (hl : Hid (len = 4)) (H : Hid (Beg B0 w0 ws a len cap a2 cap2 b ea))
    (u0 u1 u3 u4 u5 u6 u9 u10 u11 u12 u13 u14 u15 u16 u17 u18 u19 u20 u21 u22 u23 u24 u25 u26 u27 u28 u29 u30 u31 u32 u33 u34 u35 u36 u37 u38 u39 u40 u41 u42 u43 u44 u45 u46 u47 u48 u49 u50 u51 u52 u53 u54 u55 u56 u57 u58 u59 u60 u61 u62 u63 u64 u65 u66 u67 u68 u69 u70 u71 u72 u73 u74 u75 u76 u77 u78 u79 u80 u81 u82 u83 u84 u85 u86 u87 u88 u89 u90 u91 u92 u93 u94 u95 u96 u97 u98 u99 u100 u101 u102 u103 u104 u105 u106 u107 u108 u109 u110 u111 u112 u113 u114 u115 u116 u117 u118 u119 u120 u121 u122 u123 u124 u125 u126 u127 u128 u129 u130 u131 u132 u133 u134 u135 u136 u137 u138 u139 u140 u141 u142 : Value)
    (hQ : Hid (∀ (a : Act) (w' : World), a.tmps.getD 6 undef = .bool true → a.defers = [] → Below B0 w0 w' → Q0 .ret a w')) :
    Code.wp Ybaf.prog ((Ybaf.f3.body.bind (fromStmt 7)).getD .skip) Q0 ⟨#[u0, u1, .slice a len cap, u3, u4, u5, u6, .int .u8 64, .slice a2 len cap2, u9, u10, u11, u12, u13, u14, u15, u16, u17, u18, u19, u20, u21, u22, u23, u24, u25, u26, u27, u28, u29, u30, u31, u32, u33, u34, u35, u36, u37, u38, u39, u40, u41, u42, u43, u44, u45, u46, u47, u48, u49, u50, u51, u52, u53, u54, u55, u56, u57, u58, u59, u60, u61, u62, u63, u64, u65, u66, u67, u68, u69, u70, u71, u72, u73, u74, u75, u76, u77, u78, u79, u80, u81, u82, u83, u84, u85, u86, u87, u88, u89, u90, u91, u92, u93, u94, u95, u96, u97, u98, u99, u100, u101, u102, u103, u104, u105, u106, u107, u108, u109, u110, u111, u112, u113, u114, u115, u116, u117, u118, u119, u120, u121, u122, u123, u124, u125, u126, u127, u128, u129, u130, u131, u132, u133, u134, u135, u136, u137, u138, u139, u140, u141, u142], []⟩ ws := by
  have HP := hide (pval_ip_ok a len cap b ea ws H.out.i1 H.out.e hl.out)
  conv => arg 2; whnf
  dsimp only
  have hq := eql_nil22
  have hn := H.out.nl
  go_upto_region 8 with (go_at_call 7; refine HP.out.mono ?_; rintro e w1 ⟨rfl, hb1⟩)
  have HB1 := hide (hb1.trans ((Below.refl ws.heap.size w1).alloc hb1.size (.cells #[.int .u8 64, .int .i64 0, .int .u64 0, .string (strB b len), .slice none 0 0] 30)))
  have s1 := conv_any (H.out.i1.below HB1.out (Nat.le_refl _))
  have s2 := conv_any (H.out.i2.below HB1.out (Nat.le_refl _))
  have HC := hide (equal_any _ _ _ _ s1 s2)
  clear s1 s2
  go_upto_region 14 with (go_at_call 8; refine HC.out.mono ?_; rintro e w2 ⟨rfl, rfl⟩)
  rename_i K1 aK1 K0 aK0
  have HK := hide aK1
  clear aK1
  have HB2 := hide (HB1.out.trans ((Below.refl ws.heap.size (w1.alloc (.cells #[.int .u8 64, .int .i64 0, .int .u64 0, .string (strB b len), .slice none 0 0] 30))).alloc HB1.out.size (.cells #[.int .u8 64, .int .i64 0, .int .u64 0, .string ⟨#[]⟩, .slice none 0 0] 30)))
  have s3 := conv_any (H.out.i1.below HB2.out (Nat.le_refl _))
  have hlt : ((len : Int) == 4) = true := by simp [hl.out]
  go_wp2
  refine HK.out _ _ ?_
  exact part35 Q0 B0 w0 _ _ _ ea 64 0 0 (strB b len) (.slice none 0 0) (.slice none 0 0) none true _ rfl (hide (alike0 H.out hb1)) _ _ _ _ _ _ _ _ _ _ _ _ _ _ _ _ _ _ _ _ _ _ _ _ _ _ _ _ _ _ _ _ _ _ _ _ _ _ _ _ _ _ _ _ _ _ _ _ _ _ _ _ _ _ _ _ _ _ _ _ _ _ _ _ _ _ _ _ _ _ _ _ _ _ _ _ _ _ _ _ _ _ _ _ _ _ _ _ _ _ _ _ _ _ _ _ _ _ _ _ _ _ _ _ _ _ _ _ _ _ _ _ _ _ _ _ _ _ _ _ _ _ _ _ _ _ _ _ _ _ _ _ _ _ _ _ _ _ _ hQ

set_option maxRecDepth 100000 in
set_option maxHeartbeats 4000000 in
theorem part7_ip_bad (Q0 : Exit → Act → World → Prop) (B0 : Nat) (w0 ws : World) (a : Option Addr) (len cap : Nat) (a2 : Option Addr) (cap2 : Nat) (b : Nat → Nat) (ea : Addr) (hl : Hid (¬ len = 4)) (H : Hid (Beg B0 w0 ws a len cap a2 cap2 b ea))
    (u0 u1 u3 u4 u5 u6 u9 u10 u11 u12 u13 u14 u15 u16 u17 u18 u19 u20 u21 u22 u23 u24 u25 u26 u27 u28 u29 u30 u31 u32 u33 u34 u35 u36 u37 u38 u39 u40 u41 u42 u43 u44 u45 u46 u47 u48 u49 u50 u51 u52 u53 u54 u55 u56 u57 u58 u59 u60 u61 u62 u63 u64 u65 u66 u67 u68 u69 u70 u71 u72 u73 u74 u75 u76 u77 u78 u79 u80 u81 u82 u83 u84 u85 u86 u87 u88 u89 u90 u91 u92 u93 u94 u95 u96 u97 u98 u99 u100 u101 u102 u103 u104 u105 u106 u107 u108 u109 u110 u111 u112 u113 u114 u115 u116 u117 u118 u119 u120 u121 u122 u123 u124 u125 u126 u127 u128 u129 u130 u131 u132 u133 u134 u135 u136 u137 u138 u139 u140 u141 u142 : Value)
    (hQ : Hid (∀ (a : Act) (w' : World), a.tmps.getD 6 undef = .bool true → a.defers = [] → Below B0 w0 w' → Q0 .ret a w')) :
    Code.wp Ybaf.prog ((Ybaf.f3.body.bind (fromStmt 7)).getD .skip) Q0 ⟨#[u0, u1, .slice a len cap, u3, u4, u5, u6, .int .u8 64, .slice a2 len cap2, u9, u10, u11, u12, u13, u14, u15, u16, u17, u18, u19, u20, u21, u22, u23, u24, u25, u26, u27, u28, u29, u30, u31, u32, u33, u34, u35, u36, u37, u38, u39, u40, u41, u42, u43, u44, u45, u46, u47, u48, u49, u50, u51, u52, u53, u54, u55, u56, u57, u58, u59, u60, u61, u62, u63, u64, u65, u66, u67, u68, u69, u70, u71, u72, u73, u74, u75, u76, u77, u78, u79, u80, u81, u82, u83, u84, u85, u86, u87, u88, u89, u90, u91, u92, u93, u94, u95, u96, u97, u98, u99, u100, u101, u102, u103, u104, u105, u106, u107, u108, u109, u110, u111, u112, u113, u114, u115, u116, u117, u118, u119, u120, u121, u122, u123, u124, u125, u126, u127, u128, u129, u130, u131, u132, u133, u134, u135, u136, u137, u138, u139, u140, u141, u142], []⟩ ws := by
  have HP := hide (pval_ip_bad a len cap b ea ws H.out.i1 H.out.e hl.out)
  conv => arg 2; whnf
  dsimp only
  have hq := eql_nil22
  have hn := H.out.nl
  go_upto_region 8 with (go_at_call 7; refine HP.out.mono ?_; rintro e w1 ⟨rfl, hb1⟩)
  have HB1 := hide (hb1.trans ((Below.refl ws.heap.size w1).alloc hb1.size (.cells #[.int .u8 64, .int .i64 0, .int .u64 0, .string (strB b len), .slice none 0 0] 30)))
  have s1 := conv_any (H.out.i1.below HB1.out (Nat.le_refl _))
  have s2 := conv_any (H.out.i2.below HB1.out (Nat.le_refl _))
  have HC := hide (equal_any _ _ _ _ s1 s2)
  clear s1 s2
  go_upto_region 14 with (go_at_call 8; refine HC.out.mono ?_; rintro e w2 ⟨rfl, rfl⟩)
  rename_i K1 aK1 K0 aK0
  have HK := hide aK1
  clear aK1
  have HB2 := hide (HB1.out.trans ((Below.refl ws.heap.size (w1.alloc (.cells #[.int .u8 64, .int .i64 0, .int .u64 0, .string (strB b len), .slice none 0 0] 30))).alloc HB1.out.size (.cells #[.int .u8 64, .int .i64 0, .int .u64 0, .string ⟨#[]⟩, .slice none 0 0] 30)))
  have s3 := conv_any (H.out.i1.below HB2.out (Nat.le_refl _))
  have hlt : ((len : Int) == 4) = false := by have := hl.out; simp; omega
  go_wp2
  refine HK.out _ _ ?_
  exact part35 Q0 B0 w0 _ _ _ ea 64 0 0 (strB b len) (.slice none 0 0) (.slice none 0 0) none false _ rfl (hide (alike0 H.out hb1)) _ _ _ _ _ _ _ _ _ _ _ _ _ _ _ _ _ _ _ _ _ _ _ _ _ _ _ _ _ _ _ _ _ _ _ _ _ _ _ _ _ _ _ _ _ _ _ _ _ _ _ _ _ _ _ _ _ _ _ _ _ _ _ _ _ _ _ _ _ _ _ _ _ _ _ _ _ _ _ _ _ _ _ _ _ _ _ _ _ _ _ _ _ _ _ _ _ _ _ _ _ _ _ _ _ _ _ _ _ _ _ _ _ _ _ _ _ _ _ _ _ _ _ _ _ _ _ _ _ _ _ _ _ _ _ _ _ _ _ hQ

set_option maxRecDepth 100000 in
set_option maxHeartbeats 4000000 in
theorem part7_null5_ok (Q0 : Exit → Act → World → Prop) (B0 : Nat) (w0 ws : World) (a : Option Addr) (len cap : Nat) (a2 : Option Addr) (cap2 : Nat) (b : Nat → Nat) (ea : Addr) (hl : Hid (len = 0)) (H : Hid (Beg B0 w0 ws a len cap a2 cap2 b ea))
    (u0 u1 u3 u4 u5 u6 u9 u10 u11 u12 u13 u14 u15 u16 u17 u18 u19 u20 u21 u22 u23 u24 u25 u26 u27 u28 u29 u30 u31 u32 u33 u34 u35 u36 u37 u38 u39 u40 u41 u42 u43 u44 u45 u46 u47 u48 u49 u50 u51 u52 u53 u54 u55 u56 u57 u58 u59 u60 u61 u62 u63 u64 u65 u66 u67 u68 u69 u70 u71 u72 u73 u74 u75 u76 u77 u78 u79 u80 u81 u82 u83 u84 u85 u86 u87 u88 u89 u90 u91 u92 u93 u94 u95 u96 u97 u98 u99 u100 u101 u102 u103 u104 u105 u106 u107 u108 u109 u110 u111 u112 u113 u114 u115 u116 u117 u118 u119 u120 u121 u122 u123 u124 u125 u126 u127 u128 u129 u130 u131 u132 u133 u134 u135 u136 u137 u138 u139 u140 u141 u142 : Value)
    (hQ : Hid (∀ (a : Act) (w' : World), a.tmps.getD 6 undef = .bool true → a.defers = [] → Below B0 w0 w' → Q0 .ret a w')) :
    Code.wp Ybaf.prog ((Ybaf.f3.body.bind (fromStmt 7)).getD .skip) Q0 ⟨#[u0, u1, .slice a len cap, u3, u4, u5, u6, .int .u8 5, .slice a2 len cap2, u9, u10, u11, u12, u13, u14, u15, u16, u17, u18, u19, u20, u21, u22, u23, u24, u25, u26, u27, u28, u29, u30, u31, u32, u33, u34, u35, u36, u37, u38, u39, u40, u41, u42, u43, u44, u45, u46, u47, u48, u49, u50, u51, u52, u53, u54, u55, u56, u57, u58, u59, u60, u61, u62, u63, u64, u65, u66, u67, u68, u69, u70, u71, u72, u73, u74, u75, u76, u77, u78, u79, u80, u81, u82, u83, u84, u85, u86, u87, u88, u89, u90, u91, u92, u93, u94, u95, u96, u97, u98, u99, u100, u101, u102, u103, u104, u105, u106, u107, u108, u109, u110, u111, u112, u113, u114, u115, u116, u117, u118, u119, u120, u121, u122, u123, u124, u125, u126, u127, u128, u129, u130, u131, u132, u133, u134, u135, u136, u137, u138, u139, u140, u141, u142], []⟩ ws := by
  have HP := hide (pval_null5_ok a len cap ea ws H.out.e hl.out)
  conv => arg 2; whnf
  dsimp only
  have hq := eql_nil22
  have hn := H.out.nl
  go_upto_region 8 with (go_at_call 7; refine HP.out.mono ?_; rintro e w1 ⟨rfl, hb1⟩)
  have HB1 := hide (hb1.trans ((Below.refl ws.heap.size w1).alloc hb1.size (.cells #[.int .u8 5, .int .i64 0, .int .u64 0, .string ⟨#[]⟩, .slice none 0 0] 30)))
  have s1 := conv_any (H.out.i1.below HB1.out (Nat.le_refl _))
  have s2 := conv_any (H.out.i2.below HB1.out (Nat.le_refl _))
  have HC := hide (equal_any _ _ _ _ s1 s2)
  clear s1 s2
  go_upto_region 14 with (go_at_call 8; refine HC.out.mono ?_; rintro e w2 ⟨rfl, rfl⟩)
  rename_i K1 aK1 K0 aK0
  have HK := hide aK1
  clear aK1
  have HB2 := hide (HB1.out.trans ((Below.refl ws.heap.size (w1.alloc (.cells #[.int .u8 5, .int .i64 0, .int .u64 0, .string ⟨#[]⟩, .slice none 0 0] 30))).alloc HB1.out.size (.cells #[.int .u8 5, .int .i64 0, .int .u64 0, .string ⟨#[]⟩, .slice none 0 0] 30)))
  have hlt : ((len : Int) == 0) = true := by simp [hl.out]
  go_wp2
  refine HK.out _ _ ?_
  exact part35 Q0 B0 w0 _ _ _ ea 5 0 0 ⟨#[]⟩ (.slice none 0 0) (.slice none 0 0) none true _ rfl (hide (alike0 H.out hb1)) _ _ _ _ _ _ _ _ _ _ _ _ _ _ _ _ _ _ _ _ _ _ _ _ _ _ _ _ _ _ _ _ _ _ _ _ _ _ _ _ _ _ _ _ _ _ _ _ _ _ _ _ _ _ _ _ _ _ _ _ _ _ _ _ _ _ _ _ _ _ _ _ _ _ _ _ _ _ _ _ _ _ _ _ _ _ _ _ _ _ _ _ _ _ _ _ _ _ _ _ _ _ _ _ _ _ _ _ _ _ _ _ _ _ _ _ _ _ _ _ _ _ _ _ _ _ _ _ _ _ _ _ _ _ _ _ _ _ _ hQ

set_option maxRecDepth 100000 in
set_option maxHeartbeats 4000000 in
theorem part7_null5_bad (Q0 : Exit → Act → World → Prop) (B0 : Nat) (w0 ws : World) (a : Option Addr) (len cap : Nat) (a2 : Option Addr) (cap2 : Nat) (b : Nat → Nat) (ea : Addr) (hl : Hid (¬ len = 0)) (H : Hid (Beg B0 w0 ws a len cap a2 cap2 b ea))
    (u0 u1 u3 u4 u5 u6 u9 u10 u11 u12 u13 u14 u15 u16 u17 u18 u19 u20 u21 u22 u23 u24 u25 u26 u27 u28 u29 u30 u31 u32 u33 u34 u35 u36 u37 u38 u39 u40 u41 u42 u43 u44 u45 u46 u47 u48 u49 u50 u51 u52 u53 u54 u55 u56 u57 u58 u59 u60 u61 u62 u63 u64 u65 u66 u67 u68 u69 u70 u71 u72 u73 u74 u75 u76 u77 u78 u79 u80 u81 u82 u83 u84 u85 u86 u87 u88 u89 u90 u91 u92 u93 u94 u95 u96 u97 u98 u99 u100 u101 u102 u103 u104 u105 u106 u107 u108 u109 u110 u111 u112 u113 u114 u115 u116 u117 u118 u119 u120 u121 u122 u123 u124 u125 u126 u127 u128 u129 u130 u131 u132 u133 u134 u135 u136 u137 u138 u139 u140 u141 u142 : Value)
    (hQ : Hid (∀ (a : Act) (w' : World), a.tmps.getD 6 undef = .bool true → a.defers = [] → Below B0 w0 w' → Q0 .ret a w')) :
    Code.wp Ybaf.prog ((Ybaf.f3.body.bind (fromStmt 7)).getD .skip) Q0 ⟨#[u0, u1, .slice a len cap, u3, u4, u5, u6, .int .u8 5, .slice a2 len cap2, u9, u10, u11, u12, u13, u14, u15, u16, u17, u18, u19, u20, u21, u22, u23, u24, u25, u26, u27, u28, u29, u30, u31, u32, u33, u34, u35, u36, u37, u38, u39, u40, u41, u42, u43, u44, u45, u46, u47, u48, u49, u50, u51, u52, u53, u54, u55, u56, u57, u58, u59, u60, u61, u62, u63, u64, u65, u66, u67, u68, u69, u70, u71, u72, u73, u74, u75, u76, u77, u78, u79, u80, u81, u82, u83, u84, u85, u86, u87, u88, u89, u90, u91, u92, u93, u94, u95, u96, u97, u98, u99, u100, u101, u102, u103, u104, u105, u106, u107, u108, u109, u110, u111, u112, u113, u114, u115, u116, u117, u118, u119, u120, u121, u122, u123, u124, u125, u126, u127, u128, u129, u130, u131, u132, u133, u134, u135, u136, u137, u138, u139, u140, u141, u142], []⟩ ws := by
  have HP := hide (pval_null5_bad a len cap ea ws H.out.e hl.out)
  conv => arg 2; whnf
  dsimp only
  have hq := eql_nil22
  have hn := H.out.nl
  go_upto_region 8 with (go_at_call 7; refine HP.out.mono ?_; rintro e w1 ⟨rfl, hb1⟩)
  have HB1 := hide (hb1.trans ((Below.refl ws.heap.size w1).alloc hb1.size (.cells #[.int .u8 5, .int .i64 0, .int .u64 0, .string ⟨#[]⟩, .slice none 0 0] 30)))
  have s1 := conv_any (H.out.i1.below HB1.out (Nat.le_refl _))
  have s2 := conv_any (H.out.i2.below HB1.out (Nat.le_refl _))
  have HC := hide (equal_any _ _ _ _ s1 s2)
  clear s1 s2
  go_upto_region 14 with (go_at_call 8; refine HC.out.mono ?_; rintro e w2 ⟨rfl, rfl⟩)
  rename_i K1 aK1 K0 aK0
  have HK := hide aK1
  clear aK1
  have HB2 := hide (HB1.out.trans ((Below.refl ws.heap.size (w1.alloc (.cells #[.int .u8 5, .int .i64 0, .int .u64 0, .string ⟨#[]⟩, .slice none 0 0] 30))).alloc HB1.out.size (.cells #[.int .u8 5, .int .i64 0, .int .u64 0, .string ⟨#[]⟩, .slice none 0 0] 30)))
  have hlt : ((len : Int) == 0) = false := by have := hl.out; simp; omega
  go_wp2
  refine HK.out _ _ ?_
  exact part35 Q0 B0 w0 _ _ _ ea 5 0 0 ⟨#[]⟩ (.slice none 0 0) (.slice none 0 0) none false _ rfl (hide (alike0 H.out hb1)) _ _ _ _ _ _ _ _ _ _ _ _ _ _ _ _ _ _ _ _ _ _ _ _ _ _ _ _ _ _ _ _ _ _ _ _ _ _ _ _ _ _ _ _ _ _ _ _ _ _ _ _ _ _ _ _ _ _ _ _ _ _ _ _ _ _ _ _ _ _ _ _ _ _ _ _ _ _ _ _ _ _ _ _ _ _ _ _ _ _ _ _ _ _ _ _ _ _ _ _ _ _ _ _ _ _ _ _ _ _ _ _ _ _ _ _ _ _ _ _ _ _ _ _ _ _ _ _ _ _ _ _ _ _ _ _ _ _ _ hQ

set_option maxRecDepth 100000 in
set_option maxHeartbeats 4000000 in
theorem part7_null128_ok (Q0 : Exit → Act → World → Prop) (B0 : Nat) (w0 ws : World) (a : Option Addr) (len cap : Nat) (a2 : Option Addr) (cap2 : Nat) (b : Nat → Nat) (ea : Addr) (hl : Hid (len = 0)) (H : Hid (Beg B0 w0 ws a len cap a2 cap2 b ea))
    (u0 u1 u3 u4 u5 u6 u9 u10 u11 u12 u13 u14 u15 u16 u17 u18 u19 u20 u21 u22 u23 u24 u25 u26 u27 u28 u29 u30 u31 u32 u33 u34 u35 u36 u37 u38 u39 u40 u41 u42 u43 u44 u45 u46 u47 u48 u49 u50 u51 u52 u53 u54 u55 u56 u57 u58 u59 u60 u61 u62 u63 u64 u65 u66 u67 u68 u69 u70 u71 u72 u73 u74 u75 u76 u77 u78 u79 u80 u81 u82 u83 u84 u85 u86 u87 u88 u89 u90 u91 u92 u93 u94 u95 u96 u97 u98 u99 u100 u101 u102 u103 u104 u105 u106 u107 u108 u109 u110 u111 u112 u113 u114 u115 u116 u117 u118 u119 u120 u121 u122 u123 u124 u125 u126 u127 u128 u129 u130 u131 u132 u133 u134 u135 u136 u137 u138 u139 u140 u141 u142 : Value)
    (hQ : Hid (∀ (a : Act) (w' : World), a.tmps.getD 6 undef = .bool true → a.defers = [] → Below B0 w0 w' → Q0 .ret a w')) :
    Code.wp Ybaf.prog ((Ybaf.f3.body.bind (fromStmt 7)).getD .skip) Q0 ⟨#[u0, u1, .slice a len cap, u3, u4, u5, u6, .int .u8 128, .slice a2 len cap2, u9, u10, u11, u12, u13, u14, u15, u16, u17, u18, u19, u20, u21, u22, u23, u24, u25, u26, u27, u28, u29, u30, u31, u32, u33, u34, u35, u36, u37, u38, u39, u40, u41, u42, u43, u44, u45, u46, u47, u48, u49, u50, u51, u52, u53, u54, u55, u56, u57, u58, u59, u60, u61, u62, u63, u64, u65, u66, u67, u68, u69, u70, u71, u72, u73, u74, u75, u76, u77, u78, u79, u80, u81, u82, u83, u84, u85, u86, u87, u88, u89, u90, u91, u92, u93, u94, u95, u96, u97, u98, u99, u100, u101, u102, u103, u104, u105, u106, u107, u108, u109, u110, u111, u112, u113, u114, u115, u116, u117, u118, u119, u120, u121, u122, u123, u124, u125, u126, u127, u128, u129, u130, u131, u132, u133, u134, u135, u136, u137, u138, u139, u140, u141, u142], []⟩ ws := by
  have HP := hide (pval_null128_ok a len cap ea ws H.out.e hl.out)
  conv => arg 2; whnf
  dsimp only
  have hq := eql_nil22
  have hn := H.out.nl
  go_upto_region 8 with (go_at_call 7; refine HP.out.mono ?_; rintro e w1 ⟨rfl, hb1⟩)
  have HB1 := hide (hb1.trans ((Below.refl ws.heap.size w1).alloc hb1.size (.cells #[.int .u8 128, .int .i64 0, .int .u64 0, .string ⟨#[]⟩, .slice none 0 0] 30)))
  have s1 := conv_any (H.out.i1.below HB1.out (Nat.le_refl _))
  have s2 := conv_any (H.out.i2.below HB1.out (Nat.le_refl _))
  have HC := hide (equal_any _ _ _ _ s1 s2)
  clear s1 s2
  go_upto_region 14 with (go_at_call 8; refine HC.out.mono ?_; rintro e w2 ⟨rfl, rfl⟩)
  rename_i K1 aK1 K0 aK0
  have HK := hide aK1
  clear aK1
  have HB2 := hide (HB1.out.trans ((Below.refl ws.heap.size (w1.alloc (.cells #[.int .u8 128, .int .i64 0, .int .u64 0, .string ⟨#[]⟩, .slice none 0 0] 30))).alloc HB1.out.size (.cells #[.int .u8 128, .int .i64 0, .int .u64 0, .string ⟨#[]⟩, .slice none 0 0] 30)))
  have hlt : ((len : Int) == 0) = true := by simp [hl.out]
  go_wp2
  refine HK.out _ _ ?_
  exact part35 Q0 B0 w0 _ _ _ ea 128 0 0 ⟨#[]⟩ (.slice none 0 0) (.slice none 0 0) none true _ rfl (hide (alike0 H.out hb1)) _ _ _ _ _ _ _ _ _ _ _ _ _ _ _ _ _ _ _ _ _ _ _ _ _ _ _ _ _ _ _ _ _ _ _ _ _ _ _ _ _ _ _ _ _ _ _ _ _ _ _ _ _ _ _ _ _ _ _ _ _ _ _ _ _ _ _ _ _ _ _ _ _ _ _ _ _ _ _ _ _ _ _ _ _ _ _ _ _ _ _ _ _ _ _ _ _ _ _ _ _ _ _ _ _ _ _ _ _ _ _ _ _ _ _ _ _ _ _ _ _ _ _ _ _ _ _ _ _ _ _ _ _ _ _ _ _ _ _ hQ

set_option maxRecDepth 100000 in
set_option maxHeartbeats 4000000 in
theorem part7_null128_bad (Q0 : Exit → Act → World → Prop) (B0 : Nat) (w0 ws : World) (a : Option Addr) (len cap : Nat) (a2 : Option Addr) (cap2 : Nat) (b : Nat → Nat) (ea : Addr) (hl : Hid (¬ len = 0)) (H : Hid (Beg B0 w0 ws a len cap a2 cap2 b ea))
    (u0 u1 u3 u4 u5 u6 u9 u10 u11 u12 u13 u14 u15 u16 u17 u18 u19 u20 u21 u22 u23 u24 u25 u26 u27 u28 u29 u30 u31 u32 u33 u34 u35 u36 u37 u38 u39 u40 u41 u42 u43 u44 u45 u46 u47 u48 u49 u50 u51 u52 u53 u54 u55 u56 u57 u58 u59 u60 u61 u62 u63 u64 u65 u66 u67 u68 u69 u70 u71 u72 u73 u74 u75 u76 u77 u78 u79 u80 u81 u82 u83 u84 u85 u86 u87 u88 u89 u90 u91 u92 u93 u94 u95 u96 u97 u98 u99 u100 u101 u102 u103 u104 u105 u106 u107 u108 u109 u110 u111 u112 u113 u114 u115 u116 u117 u118 u119 u120 u121 u122 u123 u124 u125 u126 u127 u128 u129 u130 u131 u132 u133 u134 u135 u136 u137 u138 u139 u140 u141 u142 : Value)
    (hQ : Hid (∀ (a : Act) (w' : World), a.tmps.getD 6 undef = .bool true → a.defers = [] → Below B0 w0 w' → Q0 .ret a w')) :
    Code.wp Ybaf.prog ((Ybaf.f3.body.bind (fromStmt 7)).getD .skip) Q0 ⟨#[u0, u1, .slice a len cap, u3, u4, u5, u6, .int .u8 128, .slice a2 len cap2, u9, u10, u11, u12, u13, u14, u15, u16, u17, u18, u19, u20, u21, u22, u23, u24, u25, u26, u27, u28, u29, u30, u31, u32, u33, u34, u35, u36, u37, u38, u39, u40, u41, u42, u43, u44, u45, u46, u47, u48, u49, u50, u51, u52, u53, u54, u55, u56, u57, u58, u59, u60, u61, u62, u63, u64, u65, u66, u67, u68, u69, u70, u71, u72, u73, u74, u75, u76, u77, u78, u79, u80, u81, u82, u83, u84, u85, u86, u87, u88, u89, u90, u91, u92, u93, u94, u95, u96, u97, u98, u99, u100, u101, u102, u103, u104, u105, u106, u107, u108, u109, u110, u111, u112, u113, u114, u115, u116, u117, u118, u119, u120, u121, u122, u123, u124, u125, u126, u127, u128, u129, u130, u131, u132, u133, u134, u135, u136, u137, u138, u139, u140, u141, u142], []⟩ ws := by
  have HP := hide (pval_null128_bad a len cap ea ws H.out.e hl.out)
  conv => arg 2; whnf
  dsimp only
  have hq := eql_nil22
  have hn := H.out.nl
  go_upto_region 8 with (go_at_call 7; refine HP.out.mono ?_; rintro e w1 ⟨rfl, hb1⟩)
  have HB1 := hide (hb1.trans ((Below.refl ws.heap.size w1).alloc hb1.size (.cells #[.int .u8 128, .int .i64 0, .int .u64 0, .string ⟨#[]⟩, .slice none 0 0] 30)))
  have s1 := conv_any (H.out.i1.below HB1.out (Nat.le_refl _))
  have s2 := conv_any (H.out.i2.below HB1.out (Nat.le_refl _))
  have HC := hide (equal_any _ _ _ _ s1 s2)
  clear s1 s2
  go_upto_region 14 with (go_at_call 8; refine HC.out.mono ?_; rintro e w2 ⟨rfl, rfl⟩)
  rename_i K1 aK1 K0 aK0
  have HK := hide aK1
  clear aK1
  have HB2 := hide (HB1.out.trans ((Below.refl ws.heap.size (w1.alloc (.cells #[.int .u8 128, .int .i64 0, .int .u64 0, .string ⟨#[]⟩, .slice none 0 0] 30))).alloc HB1.out.size (.cells #[.int .u8 128, .int .i64 0, .int .u64 0, .string ⟨#[]⟩, .slice none 0 0] 30)))
  have hlt : ((len : Int) == 0) = false := by have := hl.out; simp; omega
  go_wp2
  refine HK.out _ _ ?_
  exact part35 Q0 B0 w0 _ _ _ ea 128 0 0 ⟨#[]⟩ (.slice none 0 0) (.slice none 0 0) none false _ rfl (hide (alike0 H.out hb1)) _ _ _ _ _ _ _ _ _ _ _ _ _ _ _ _ _ _ _ _ _ _ _ _ _ _ _ _ _ _ _ _ _ _ _ _ _ _ _ _ _ _ _ _ _ _ _ _ _ _ _ _ _ _ _ _ _ _ _ _ _ _ _ _ _ _ _ _ _ _ _ _ _ _ _ _ _ _ _ _ _ _ _ _ _ _ _ _ _ _ _ _ _ _ _ _ _ _ _ _ _ _ _ _ _ _ _ _ _ _ _ _ _ _ _ _ _ _ _ _ _ _ _ _ _ _ _ _ _ _ _ _ _ _ _ _ _ _ _ hQ

set_option maxRecDepth 100000 in
set_option maxHeartbeats 4000000 in
theorem part7_null129_ok (Q0 : Exit → Act → World → Prop) (B0 : Nat) (w0 ws : World) (a : Option Addr) (len cap : Nat) (a2 : Option Addr) (cap2 : Nat) (b : Nat → Nat) (ea : Addr) (hl : Hid (len = 0)) (H : Hid (Beg B0 w0 ws a len cap a2 cap2 b ea))
    (u0 u1 u3 u4 u5 u6 u9 u10 u11 u12 u13 u14 u15 u16 u17 u18 u19 u20 u21 u22 u23 u24 u25 u26 u27 u28 u29 u30 u31 u32 u33 u34 u35 u36 u37 u38 u39 u40 u41 u42 u43 u44 u45 u46 u47 u48 u49 u50 u51 u52 u53 u54 u55 u56 u57 u58 u59 u60 u61 u62 u63 u64 u65 u66 u67 u68 u69 u70 u71 u72 u73 u74 u75 u76 u77 u78 u79 u80 u81 u82 u83 u84 u85 u86 u87 u88 u89 u90 u91 u92 u93 u94 u95 u96 u97 u98 u99 u100 u101 u102 u103 u104 u105 u106 u107 u108 u109 u110 u111 u112 u113 u114 u115 u116 u117 u118 u119 u120 u121 u122 u123 u124 u125 u126 u127 u128 u129 u130 u131 u132 u133 u134 u135 u136 u137 u138 u139 u140 u141 u142 : Value)
    (hQ : Hid (∀ (a : Act) (w' : World), a.tmps.getD 6 undef = .bool true → a.defers = [] → Below B0 w0 w' → Q0 .ret a w')) :
    Code.wp Ybaf.prog ((Ybaf.f3.body.bind (fromStmt 7)).getD .skip) Q0 ⟨#[u0, u1, .slice a len cap, u3, u4, u5, u6, .int .u8 129, .slice a2 len cap2, u9, u10, u11, u12, u13, u14, u15, u16, u17, u18, u19, u20, u21, u22, u23, u24, u25, u26, u27, u28, u29, u30, u31, u32, u33, u34, u35, u36, u37, u38, u39, u40, u41, u42, u43, u44, u45, u46, u47, u48, u49, u50, u51, u52, u53, u54, u55, u56, u57, u58, u59, u60, u61, u62, u63, u64, u65, u66, u67, u68, u69, u70, u71, u72, u73, u74, u75, u76, u77, u78, u79, u80, u81, u82, u83, u84, u85, u86, u87, u88, u89, u90, u91, u92, u93, u94, u95, u96, u97, u98, u99, u100, u101, u102, u103, u104, u105, u106, u107, u108, u109, u110, u111, u112, u113, u114, u115, u116, u117, u118, u119, u120, u121, u122, u123, u124, u125, u126, u127, u128, u129, u130, u131, u132, u133, u134, u135, u136, u137, u138, u139, u140, u141, u142], []⟩ ws := by
  have HP := hide (pval_null129_ok a len cap ea ws H.out.e hl.out)
  conv => arg 2; whnf
  dsimp only
  have hq := eql_nil22
  have hn := H.out.nl
  go_upto_region 8 with (go_at_call 7; refine HP.out.mono ?_; rintro e w1 ⟨rfl, hb1⟩)
  have HB1 := hide (hb1.trans ((Below.refl ws.heap.size w1).alloc hb1.size (.cells #[.int .u8 129, .int .i64 0, .int .u64 0, .string ⟨#[]⟩, .slice none 0 0] 30)))
  have s1 := conv_any (H.out.i1.below HB1.out (Nat.le_refl _))
  have s2 := conv_any (H.out.i2.below HB1.out (Nat.le_refl _))
  have HC := hide (equal_any _ _ _ _ s1 s2)
  clear s1 s2
  go_upto_region 14 with (go_at_call 8; refine HC.out.mono ?_; rintro e w2 ⟨rfl, rfl⟩)
  rename_i K1 aK1 K0 aK0
  have HK := hide aK1
  clear aK1
  have HB2 := hide (HB1.out.trans ((Below.refl ws.heap.size (w1.alloc (.cells #[.int .u8 129, .int .i64 0, .int .u64 0, .string ⟨#[]⟩, .slice none 0 0] 30))).alloc HB1.out.size (.cells #[.int .u8 129, .int .i64 0, .int .u64 0, .string ⟨#[]⟩, .slice none 0 0] 30)))
  have hlt : ((len : Int) == 0) = true := by simp [hl.out]
  go_wp2
  refine HK.out _ _ ?_
  exact part35 Q0 B0 w0 _ _ _ ea 129 0 0 ⟨#[]⟩ (.slice none 0 0) (.slice none 0 0) none true _ rfl (hide (alike0 H.out hb1)) _ _ _ _ _ _ _ _ _ _ _ _ _ _ _ _ _ _ _ _ _ _ _ _ _ _ _ _ _ _ _ _ _ _ _ _ _ _ _ _ _ _ _ _ _ _ _ _ _ _ _ _ _ _ _ _ _ _ _ _ _ _ _ _ _ _ _ _ _ _ _ _ _ _ _ _ _ _ _ _ _ _ _ _ _ _ _ _ _ _ _ _ _ _ _ _ _ _ _ _ _ _ _ _ _ _ _ _ _ _ _ _ _ _ _ _ _ _ _ _ _ _ _ _ _ _ _ _ _ _ _ _ _ _ _ _ _ _ _ hQ

set_option maxRecDepth 100000 in
set_option maxHeartbeats 4000000 in
theorem part7_null129_bad (Q0 : Exit → Act → World → Prop) (B0 : Nat) (w0 ws : World) (a : Option Addr) (len cap : Nat) (a2 : Option Addr) (cap2 : Nat) (b : Nat → Nat) (ea : Addr) (hl : Hid (¬ len = 0)) (H : Hid (Beg B0 w0 ws a len cap a2 cap2 b ea))
    (u0 u1 u3 u4 u5 u6 u9 u10 u11 u12 u13 u14 u15 u16 u17 u18 u19 u20 u21 u22 u23 u24 u25 u26 u27 u28 u29 u30 u31 u32 u33 u34 u35 u36 u37 u38 u39 u40 u41 u42 u43 u44 u45 u46 u47 u48 u49 u50 u51 u52 u53 u54 u55 u56 u57 u58 u59 u60 u61 u62 u63 u64 u65 u66 u67 u68 u69 u70 u71 u72 u73 u74 u75 u76 u77 u78 u79 u80 u81 u82 u83 u84 u85 u86 u87 u88 u89 u90 u91 u92 u93 u94 u95 u96 u97 u98 u99 u100 u101 u102 u103 u104 u105 u106 u107 u108 u109 u110 u111 u112 u113 u114 u115 u116 u117 u118 u119 u120 u121 u122 u123 u124 u125 u126 u127 u128 u129 u130 u131 u132 u133 u134 u135 u136 u137 u138 u139 u140 u141 u142 : Value)
    (hQ : Hid (∀ (a : Act) (w' : World), a.tmps.getD 6 undef = .bool true → a.defers = [] → Below B0 w0 w' → Q0 .ret a w')) :
    Code.wp Ybaf.prog ((Ybaf.f3.body.bind (fromStmt 7)).getD .skip) Q0 ⟨#[u0, u1, .slice a len cap, u3, u4, u5, u6, .int .u8 129, .slice a2 len cap2, u9, u10, u11, u12, u13, u14, u15, u16, u17, u18, u19, u20, u21, u22, u23, u24, u25, u26, u27, u28, u29, u30, u31, u32, u33, u34, u35, u36, u37, u38, u39, u40, u41, u42, u43, u44, u45, u46, u47, u48, u49, u50, u51, u52, u53, u54, u55, u56, u57, u58, u59, u60, u61, u62, u63, u64, u65, u66, u67, u68, u69, u70, u71, u72, u73, u74, u75, u76, u77, u78, u79, u80, u81, u82, u83, u84, u85, u86, u87, u88, u89, u90, u91, u92, u93, u94, u95, u96, u97, u98, u99, u100, u101, u102, u103, u104, u105, u106, u107, u108, u109, u110, u111, u112, u113, u114, u115, u116, u117, u118, u119, u120, u121, u122, u123, u124, u125, u126, u127, u128, u129, u130, u131, u132, u133, u134, u135, u136, u137, u138, u139, u140, u141, u142], []⟩ ws := by
  have HP := hide (pval_null129_bad a len cap ea ws H.out.e hl.out)
  conv => arg 2; whnf
  dsimp only
  have hq := eql_nil22
  have hn := H.out.nl
  go_upto_region 8 with (go_at_call 7; refine HP.out.mono ?_; rintro e w1 ⟨rfl, hb1⟩)
  have HB1 := hide (hb1.trans ((Below.refl ws.heap.size w1).alloc hb1.size (.cells #[.int .u8 129, .int .i64 0, .int .u64 0, .string ⟨#[]⟩, .slice none 0 0] 30)))
  have s1 := conv_any (H.out.i1.below HB1.out (Nat.le_refl _))
  have s2 := conv_any (H.out.i2.below HB1.out (Nat.le_refl _))
  have HC := hide (equal_any _ _ _ _ s1 s2)
  clear s1 s2
  go_upto_region 14 with (go_at_call 8; refine HC.out.mono ?_; rintro e w2 ⟨rfl, rfl⟩)
  rename_i K1 aK1 K0 aK0
  have HK := hide aK1
  clear aK1
  have HB2 := hide (HB1.out.trans ((Below.refl ws.heap.size (w1.alloc (.cells #[.int .u8 129, .int .i64 0, .int .u64 0, .string ⟨#[]⟩, .slice none 0 0] 30))).alloc HB1.out.size (.cells #[.int .u8 129, .int .i64 0, .int .u64 0, .string ⟨#[]⟩, .slice none 0 0] 30)))
  have hlt : ((len : Int) == 0) = false := by have := hl.out; simp; omega
  go_wp2
  refine HK.out _ _ ?_
  exact part35 Q0 B0 w0 _ _ _ ea 129 0 0 ⟨#[]⟩ (.slice none 0 0) (.slice none 0 0) none false _ rfl (hide (alike0 H.out hb1)) _ _ _ _ _ _ _ _ _ _ _ _ _ _ _ _ _ _ _ _ _ _ _ _ _ _ _ _ _ _ _ _ _ _ _ _ _ _ _ _ _ _ _ _ _ _ _ _ _ _ _ _ _ _ _ _ _ _ _ _ _ _ _ _ _ _ _ _ _ _ _ _ _ _ _ _ _ _ _ _ _ _ _ _ _ _ _ _ _ _ _ _ _ _ _ _ _ _ _ _ _ _ _ _ _ _ _ _ _ _ _ _ _ _ _ _ _ _ _ _ _ _ _ _ _ _ _ _ _ _ _ _ _ _ _ _ _ _ _ hQ

set_option maxRecDepth 100000 in
set_option maxHeartbeats 4000000 in
theorem part7_null130_ok (Q0 : Exit → Act → World → Prop) (B0 : Nat) (w0 ws : World) (a : Option Addr) (len cap : Nat) (a2 : Option Addr) (cap2 : Nat) (b : Nat → Nat) (ea : Addr) (hl : Hid (len = 0)) (H : Hid (Beg B0 w0 ws a len cap a2 cap2 b ea))
    (u0 u1 u3 u4 u5 u6 u9 u10 u11 u12 u13 u14 u15 u16 u17 u18 u19 u20 u21 u22 u23 u24 u25 u26 u27 u28 u29 u30 u31 u32 u33 u34 u35 u36 u37 u38 u39 u40 u41 u42 u43 u44 u45 u46 u47 u48 u49 u50 u51 u52 u53 u54 u55 u56 u57 u58 u59 u60 u61 u62 u63 u64 u65 u66 u67 u68 u69 u70 u71 u72 u73 u74 u75 u76 u77 u78 u79 u80 u81 u82 u83 u84 u85 u86 u87 u88 u89 u90 u91 u92 u93 u94 u95 u96 u97 u98 u99 u100 u101 u102 u103 u104 u105 u106 u107 u108 u109 u110 u111 u112 u113 u114 u115 u116 u117 u118 u119 u120 u121 u122 u123 u124 u125 u126 u127 u128 u129 u130 u131 u132 u133 u134 u135 u136 u137 u138 u139 u140 u141 u142 : Value)
    (hQ : Hid (∀ (a : Act) (w' : World), a.tmps.getD 6 undef = .bool true → a.defers = [] → Below B0 w0 w' → Q0 .ret a w')) :
    Code.wp Ybaf.prog ((Ybaf.f3.body.bind (fromStmt 7)).getD .skip) Q0 ⟨#[u0, u1, .slice a len cap, u3, u4, u5, u6, .int .u8 130, .slice a2 len cap2, u9, u10, u11, u12, u13, u14, u15, u16, u17, u18, u19, u20, u21, u22, u23, u24, u25, u26, u27, u28, u29, u30, u31, u32, u33, u34, u35, u36, u37, u38, u39, u40, u41, u42, u43, u44, u45, u46, u47, u48, u49, u50, u51, u52, u53, u54, u55, u56, u57, u58, u59, u60, u61, u62, u63, u64, u65, u66, u67, u68, u69, u70, u71, u72, u73, u74, u75, u76, u77, u78, u79, u80, u81, u82, u83, u84, u85, u86, u87, u88, u89, u90, u91, u92, u93, u94, u95, u96, u97, u98, u99, u100, u101, u102, u103, u104, u105, u106, u107, u108, u109, u110, u111, u112, u113, u114, u115, u116, u117, u118, u119, u120, u121, u122, u123, u124, u125, u126, u127, u128, u129, u130, u131, u132, u133, u134, u135, u136, u137, u138, u139, u140, u141, u142], []⟩ ws := by
  have HP := hide (pval_null130_ok a len cap ea ws H.out.e hl.out)
  conv => arg 2; whnf
  dsimp only
  have hq := eql_nil22
  have hn := H.out.nl
  go_upto_region 8 with (go_at_call 7; refine HP.out.mono ?_; rintro e w1 ⟨rfl, hb1⟩)
  have HB1 := hide (hb1.trans ((Below.refl ws.heap.size w1).alloc hb1.size (.cells #[.int .u8 130, .int .i64 0, .int .u64 0, .string ⟨#[]⟩, .slice none 0 0] 30)))
  have s1 := conv_any (H.out.i1.below HB1.out (Nat.le_refl _))
  have s2 := conv_any (H.out.i2.below HB1.out (Nat.le_refl _))
  have HC := hide (equal_any _ _ _ _ s1 s2)
  clear s1 s2
  go_upto_region 14 with (go_at_call 8; refine HC.out.mono ?_; rintro e w2 ⟨rfl, rfl⟩)
  rename_i K1 aK1 K0 aK0
  have HK := hide aK1
  clear aK1
  have HB2 := hide (HB1.out.trans ((Below.refl ws.heap.size (w1.alloc (.cells #[.int .u8 130, .int .i64 0, .int .u64 0, .string ⟨#[]⟩, .slice none 0 0] 30))).alloc HB1.out.size (.cells #[.int .u8 130, .int .i64 0, .int .u64 0, .string ⟨#[]⟩, .slice none 0 0] 30)))
  have hlt : ((len : Int) == 0) = true := by simp [hl.out]
  go_wp2
  refine HK.out _ _ ?_
  exact part35 Q0 B0 w0 _ _ _ ea 130 0 0 ⟨#[]⟩ (.slice none 0 0) (.slice none 0 0) none true _ rfl (hide (alike0 H.out hb1)) _ _ _ _ _ _ _ _ _ _ _ _ _ _ _ _ _ _ _ _ _ _ _ _ _ _ _ _ _ _ _ _ _ _ _ _ _ _ _ _ _ _ _ _ _ _ _ _ _ _ _ _ _ _ _ _ _ _ _ _ _ _ _ _ _ _ _ _ _ _ _ _ _ _ _ _ _ _ _ _ _ _ _ _ _ _ _ _ _ _ _ _ _ _ _ _ _ _ _ _ _ _ _ _ _ _ _ _ _ _ _ _ _ _ _ _ _ _ _ _ _ _ _ _ _ _ _ _ _ _ _ _ _ _ _ _ _ _ _ hQ

set_option maxRecDepth 100000 in
set_option maxHeartbeats 4000000 in
theorem part7_null130_bad (Q0 : Exit → Act → World → Prop) (B0 : Nat) (w0 ws : World) (a : Option Addr) (len cap : Nat) (a2 : Option Addr) (cap2 : Nat) (b : Nat → Nat) (ea : Addr) (hl : Hid (¬ len = 0)) (H : Hid (Beg B0 w0 ws a len cap a2 cap2 b ea))
    (u0 u1 u3 u4 u5 u6 u9 u10 u11 u12 u13 u14 u15 u16 u17 u18 u19 u20 u21 u22 u23 u24 u25 u26 u27 u28 u29 u30 u31 u32 u33 u34 u35 u36 u37 u38 u39 u40 u41 u42 u43 u44 u45 u46 u47 u48 u49 u50 u51 u52 u53 u54 u55 u56 u57 u58 u59 u60 u61 u62 u63 u64 u65 u66 u67 u68 u69 u70 u71 u72 u73 u74 u75 u76 u77 u78 u79 u80 u81 u82 u83 u84 u85 u86 u87 u88 u89 u90 u91 u92 u93 u94 u95 u96 u97 u98 u99 u100 u101 u102 u103 u104 u105 u106 u107 u108 u109 u110 u111 u112 u113 u114 u115 u116 u117 u118 u119 u120 u121 u122 u123 u124 u125 u126 u127 u128 u129 u130 u131 u132 u133 u134 u135 u136 u137 u138 u139 u140 u141 u142 : Value)
    (hQ : Hid (∀ (a : Act) (w' : World), a.tmps.getD 6 undef = .bool true → a.defers = [] → Below B0 w0 w' → Q0 .ret a w')) :
    Code.wp Ybaf.prog ((Ybaf.f3.body.bind (fromStmt 7)).getD .skip) Q0 ⟨#[u0, u1, .slice a len cap, u3, u4, u5, u6, .int .u8 130, .slice a2 len cap2, u9, u10, u11, u12, u13, u14, u15, u16, u17, u18, u19, u20, u21, u22, u23, u24, u25, u26, u27, u28, u29, u30, u31, u32, u33, u34, u35, u36, u37, u38, u39, u40, u41, u42, u43, u44, u45, u46, u47, u48, u49, u50, u51, u52, u53, u54, u55, u56, u57, u58, u59, u60, u61, u62, u63, u64, u65, u66, u67, u68, u69, u70, u71, u72, u73, u74, u75, u76, u77, u78, u79, u80, u81, u82, u83, u84, u85, u86, u87, u88, u89, u90, u91, u92, u93, u94, u95, u96, u97, u98, u99, u100, u101, u102, u103, u104, u105, u106, u107, u108, u109, u110, u111, u112, u113, u114, u115, u116, u117, u118, u119, u120, u121, u122, u123, u124, u125, u126, u127, u128, u129, u130, u131, u132, u133, u134, u135, u136, u137, u138, u139, u140, u141, u142], []⟩ ws := by
  have HP := hide (pval_null130_bad a len cap ea ws H.out.e hl.out)
  conv => arg 2; whnf
  dsimp only
  have hq := eql_nil22
  have hn := H.out.nl
  go_upto_region 8 with (go_at_call 7; refine HP.out.mono ?_; rintro e w1 ⟨rfl, hb1⟩)
  have HB1 := hide (hb1.trans ((Below.refl ws.heap.size w1).alloc hb1.size (.cells #[.int .u8 130, .int .i64 0, .int .u64 0, .string ⟨#[]⟩, .slice none 0 0] 30)))
  have s1 := conv_any (H.out.i1.below HB1.out (Nat.le_refl _))
  have s2 := conv_any (H.out.i2.below HB1.out (Nat.le_refl _))
  have HC := hide (equal_any _ _ _ _ s1 s2)
  clear s1 s2
  go_upto_region 14 with (go_at_call 8; refine HC.out.mono ?_; rintro e w2 ⟨rfl, rfl⟩)
  rename_i K1 aK1 K0 aK0
  have HK := hide aK1
  clear aK1
  have HB2 := hide (HB1.out.trans ((Below.refl ws.heap.size (w1.alloc (.cells #[.int .u8 130, .int .i64 0, .int .u64 0, .string ⟨#[]⟩, .slice none 0 0] 30))).alloc HB1.out.size (.cells #[.int .u8 130, .int .i64 0, .int .u64 0, .string ⟨#[]⟩, .slice none 0 0] 30)))
  have hlt : ((len : Int) == 0) = false := by have := hl.out; simp; omega
  go_wp2
  refine HK.out _ _ ?_
  exact part35 Q0 B0 w0 _ _ _ ea 130 0 0 ⟨#[]⟩ (.slice none 0 0) (.slice none 0 0) none false _ rfl (hide (alike0 H.out hb1)) _ _ _ _ _ _ _ _ _ _ _ _ _ _ _ _ _ _ _ _ _ _ _ _ _ _ _ _ _ _ _ _ _ _ _ _ _ _ _ _ _ _ _ _ _ _ _ _ _ _ _ _ _ _ _ _ _ _ _ _ _ _ _ _ _ _ _ _ _ _ _ _ _ _ _ _ _ _ _ _ _ _ _ _ _ _ _ _ _ _ _ _ _ _ _ _ _ _ _ _ _ _ _ _ _ _ _ _ _ _ _ _ _ _ _ _ _ _ _ _ _ _ _ _ _ _ _ _ _ _ _ _ _ _ _ _ _ _ _ hQ

set_option maxRecDepth 100000 in
set_option maxHeartbeats 4000000 in
theorem part7_other (Q0 : Exit → Act → World → Prop) (B0 : Nat) (w0 ws : World) (a : Option Addr) (len cap : Nat) (a2 : Option Addr) (cap2 : Nat) (b : Nat → Nat) (ea : Addr) (t : Nat) (hno : Hid (∀ k ∈ [2, 4, 68, 64, 6, 65, 66, 67, 70, 5, 128, 129, 130], t ≠ k)) (H : Hid (Beg B0 w0 ws a len cap a2 cap2 b ea))
    (u0 u1 u3 u4 u5 u6 u9 u10 u11 u12 u13 u14 u15 u16 u17 u18 u19 u20 u21 u22 u23 u24 u25 u26 u27 u28 u29 u30 u31 u32 u33 u34 u35 u36 u37 u38 u39 u40 u41 u42 u43 u44 u45 u46 u47 u48 u49 u50 u51 u52 u53 u54 u55 u56 u57 u58 u59 u60 u61 u62 u63 u64 u65 u66 u67 u68 u69 u70 u71 u72 u73 u74 u75 u76 u77 u78 u79 u80 u81 u82 u83 u84 u85 u86 u87 u88 u89 u90 u91 u92 u93 u94 u95 u96 u97 u98 u99 u100 u101 u102 u103 u104 u105 u106 u107 u108 u109 u110 u111 u112 u113 u114 u115 u116 u117 u118 u119 u120 u121 u122 u123 u124 u125 u126 u127 u128 u129 u130 u131 u132 u133 u134 u135 u136 u137 u138 u139 u140 u141 u142 : Value)
    (hQ : Hid (∀ (a : Act) (w' : World), a.tmps.getD 6 undef = .bool true → a.defers = [] → Below B0 w0 w' → Q0 .ret a w')) :
    Code.wp Ybaf.prog ((Ybaf.f3.body.bind (fromStmt 7)).getD .skip) Q0 ⟨#[u0, u1, .slice a len cap, u3, u4, u5, u6, .int .u8 (t : Int), .slice a2 len cap2, u9, u10, u11, u12, u13, u14, u15, u16, u17, u18, u19, u20, u21, u22, u23, u24, u25, u26, u27, u28, u29, u30, u31, u32, u33, u34, u35, u36, u37, u38, u39, u40, u41, u42, u43, u44, u45, u46, u47, u48, u49, u50, u51, u52, u53, u54, u55, u56, u57, u58, u59, u60, u61, u62, u63, u64, u65, u66, u67, u68, u69, u70, u71, u72, u73, u74, u75, u76, u77, u78, u79, u80, u81, u82, u83, u84, u85, u86, u87, u88, u89, u90, u91, u92, u93, u94, u95, u96, u97, u98, u99, u100, u101, u102, u103, u104, u105, u106, u107, u108, u109, u110, u111, u112, u113, u114, u115, u116, u117, u118, u119, u120, u121, u122, u123, u124, u125, u126, u127, u128, u129, u130, u131, u132, u133, u134, u135, u136, u137, u138, u139, u140, u141, u142], []⟩ ws := by
  have HP := hide (pval_other a len cap ea ws H.out.e t hno.out)
  conv => arg 2; whnf
  dsimp only
  have hq := eql_nil22
  have hn := H.out.nl
  go_upto_region 8 with (go_at_call 7; refine HP.out.mono ?_; rintro e w1 ⟨rfl, hb1⟩)
  have HB1 := hide (hb1.trans ((Below.refl ws.heap.size w1).alloc hb1.size (.cells #[.int .u8 (t : Int), .int .i64 0, .int .u64 0, .string ⟨#[]⟩, .slice none 0 0] 30)))
  have s1 := conv_any (H.out.i1.below HB1.out (Nat.le_refl _))
  have s2 := conv_any (H.out.i2.below HB1.out (Nat.le_refl _))
  have HC := hide (equal_any _ _ _ _ s1 s2)
  clear s1 s2
  go_upto_region 14 with (go_at_call 8; refine HC.out.mono ?_; rintro e w2 ⟨rfl, rfl⟩)
  rename_i K1 aK1 K0 aK0
  have HK := hide aK1
  clear aK1
  have HB2 := hide (HB1.out.trans ((Below.refl ws.heap.size (w1.alloc (.cells #[.int .u8 (t : Int), .int .i64 0, .int .u64 0, .string ⟨#[]⟩, .slice none 0 0] 30))).alloc HB1.out.size (.cells #[.int .u8 (t : Int), .int .i64 0, .int .u64 0, .string ⟨#[]⟩, .slice none 0 0] 30)))
  have d2 : ((t : Int) == 2) = false := by have := hno.out 2 (by simp); simp; omega
  have d4 : ((t : Int) == 4) = false := by have := hno.out 4 (by simp); simp; omega
  have d68 : ((t : Int) == 68) = false := by have := hno.out 68 (by simp); simp; omega
  have d64 : ((t : Int) == 64) = false := by have := hno.out 64 (by simp); simp; omega
  have d6 : ((t : Int) == 6) = false := by have := hno.out 6 (by simp); simp; omega
  have d65 : ((t : Int) == 65) = false := by have := hno.out 65 (by simp); simp; omega
  have d66 : ((t : Int) == 66) = false := by have := hno.out 66 (by simp); simp; omega
  have d67 : ((t : Int) == 67) = false := by have := hno.out 67 (by simp); simp; omega
  have d70 : ((t : Int) == 70) = false := by have := hno.out 70 (by simp); simp; omega
  have d5 : ((t : Int) == 5) = false := by have := hno.out 5 (by simp); simp; omega
  have d128 : ((t : Int) == 128) = false := by have := hno.out 128 (by simp); simp; omega
  have d129 : ((t : Int) == 129) = false := by have := hno.out 129 (by simp); simp; omega
  have d130 : ((t : Int) == 130) = false := by have := hno.out 130 (by simp); simp; omega
  go_wp2
  refine HK.out _ _ ?_
  exact part35 Q0 B0 w0 _ _ _ ea (t : Int) 0 0 ⟨#[]⟩ (.slice none 0 0) (.slice none 0 0) none false _ rfl (hide (alike0 H.out hb1)) _ _ _ _ _ _ _ _ _ _ _ _ _ _ _ _ _ _ _ _ _ _ _ _ _ _ _ _ _ _ _ _ _ _ _ _ _ _ _ _ _ _ _ _ _ _ _ _ _ _ _ _ _ _ _ _ _ _ _ _ _ _ _ _ _ _ _ _ _ _ _ _ _ _ _ _ _ _ _ _ _ _ _ _ _ _ _ _ _ _ _ _ _ _ _ _ _ _ _ _ _ _ _ _ _ _ _ _ _ _ _ _ _ _ _ _ _ _ _ _ _ _ _ _ _ _ _ _ _ _ _ _ _ _ _ _ _ _ _ hQ

end Go.Proofs.YbulkdtayFmt
