import Derived.Test.YbulkdtayFmtValue3
import Derived.Test.YbulkdtayFmtTag
import Derived.Test.YbulkdtayFmtEq
import Derived.Test.YbulkdtayFmtBoid
import Derived.Deep.Cut
import Derived.LaidEql
namespace Go.Proofs.YbulkdtayFmt
open Go.RowKit Go.Extern.Stop Go.Stop Go.Extern

def headIs (n : Nat) : Code → Bool
  | .region i _ _ => i == n
  | .seq a _ => headIs n a
  | _ => false
/-- The part of a body that begins with the statement whose first region is n. -/
def fromStmt (n : Nat) : Code → Option Code
  | .seq a b => if headIs n a then some (.seq a b) else match fromStmt n a with
    | some c => some c
    | none => fromStmt n b
  | .block _ c => fromStmt n c
  | .scope c => fromStmt n c
  | .cond _ a b => match fromStmt n a with
    | some c => some c
    | none => fromStmt n b
  | _ => none

theorem info72 : (Ybaf.prog.info? 72).map (fun i => i.comparable) = some true := by kernel_rfl
theorem info74 : (Ybaf.prog.info? 74).isSome = true := by kernel_rfl
theorem eql_self (ea : Addr) (w : World) : (binOp .eql 32 (.iface 72 (.pointer (some ea))) (.iface 72 (.pointer (some ea)))).run Ybaf.prog w = .ok (.bool true) w := by
  obtain ⟨i, hi, hc⟩ := Option.map_eq_some_iff.1 info72
  obtain ⟨j, hj⟩ := Option.isSome_iff_exists.1 info74
  exact run_eql_iface_ptr_same w ea Ybaf.underlying32 Ybaf.underlying72 hi hc hj

/-- What the compare is told: got and want read alike. -/
structure Alike (B0 : Nat) (w0 ws : World) (kG kW : Nat) (ea : Addr) (t : Int) (I : Int) (U : Int) (S : ByteArray) (v1 v2 : Value) (o : Option (List Nat)) : Prop where
  g : ws.heap[kG]? = some (.cells #[.int .u8 t, .int .i64 I, .int .u64 U, .string S, v1] 30 (0, 0))
  wt : ws.heap[kW]? = some (.cells #[.int .u8 t, .int .i64 I, .int .u64 U, .string S, v2] 30 (0, 0))
  r1 : OidRow ws v1 o
  r2 : OidRow ws v2 o
  e : ws.cell? ⟨0, 0, none⟩ = some (.iface 72 (.pointer (some ea)))
  bel : Below B0 w0 ws
  hi : B0 ≤ ws.heap.size

set_option maxRecDepth 100000 in
set_option maxHeartbeats 4000000 in
theorem part35 (Q0 : Exit → Act → World → Prop) (B0 : Nat) (w0 ws : World) (kG kW : Nat) (ea : Addr) (t I U : Int) (S : ByteArray) (v1 v2 : Value) (o : Option (List Nat)) (ok : Bool) (ev : Value) (hev : ev = if ok then .nilIface else .iface 72 (.pointer (some ea)))
    (H : Hid (Alike B0 w0 ws kG kW ea t I U S v1 v2 o))
    (u0 u1 u2 u3 u4 u5 u6 u7 u8 u13 u14 u15 u16 u17 u18 u19 u20 u21 u22 u23 u24 u25 u26 u27 u28 u29 u30 u31 u32 u33 u34 u35 u36 u37 u38 u39 u40 u41 u42 u43 u44 u45 u46 u47 u48 u49 u50 u51 u52 u53 u54 u55 u56 u57 u58 u59 u60 u61 u62 u63 u64 u65 u66 u67 u68 u69 u70 u71 u72 u73 u74 u75 u76 u77 u78 u79 u80 u81 u82 u83 u84 u85 u86 u87 u88 u89 u90 u91 u92 u93 u94 u95 u96 u97 u98 u99 u100 u101 u102 u103 u104 u105 u106 u107 u108 u109 u110 u111 u112 u113 u114 u115 u116 u117 u118 u119 u120 u121 u122 u123 u124 u125 u126 u127 u128 u129 u130 u131 u132 u133 u134 u135 u136 u137 u138 u139 u140 u141 u142 : Value)
    (hQ : Hid (∀ (a : Act) (w' : World), a.tmps.getD 6 undef = .bool true → a.defers = [] → Below B0 w0 w' → Q0 .ret a w')) :
    Code.wp Ybaf.prog ((Ybaf.f3.body.bind (fromStmt 35)).getD .skip) Q0 ⟨#[u0, u1, u2, u3, u4, u5, u6, u7, u8, .pointer (some ⟨kG, 0, none⟩), ev, .pointer (some ⟨kW, 0, none⟩), .bool ok, u13, u14, u15, u16, u17, u18, u19, u20, u21, u22, u23, u24, u25, u26, u27, u28, u29, u30, u31, u32, u33, u34, u35, u36, u37, u38, u39, u40, u41, u42, u43, u44, u45, u46, u47, u48, u49, u50, u51, u52, u53, u54, u55, u56, u57, u58, u59, u60, u61, u62, u63, u64, u65, u66, u67, u68, u69, u70, u71, u72, u73, u74, u75, u76, u77, u78, u79, u80, u81, u82, u83, u84, u85, u86, u87, u88, u89, u90, u91, u92, u93, u94, u95, u96, u97, u98, u99, u100, u101, u102, u103, u104, u105, u106, u107, u108, u109, u110, u111, u112, u113, u114, u115, u116, u117, u118, u119, u120, u121, u122, u123, u124, u125, u126, u127, u128, u129, u130, u131, u132, u133, u134, u135, u136, u137, u138, u139, u140, u141, u142], []⟩ ws := by
  have g0 : ws.cell? ⟨kG, 0, none⟩ = some (.int .u8 t) := by rw [cell_at H.out.g]; rfl
  have g1 : ws.cell? ⟨kG, 1, none⟩ = some (.int .i64 I) := by rw [cell_at H.out.g]; rfl
  have g2 : ws.cell? ⟨kG, 2, none⟩ = some (.int .u64 U) := by rw [cell_at H.out.g]; rfl
  have g3 : ws.cell? ⟨kG, 3, none⟩ = some (.string S) := by rw [cell_at H.out.g]; rfl
  have g4 : ws.cell? ⟨kG, 4, none⟩ = some v1 := by rw [cell_at H.out.g]; rfl
  have x0 : ws.cell? ⟨kW, 0, none⟩ = some (.int .u8 t) := by rw [cell_at H.out.wt]; rfl
  have x1 : ws.cell? ⟨kW, 1, none⟩ = some (.int .i64 I) := by rw [cell_at H.out.wt]; rfl
  have x2 : ws.cell? ⟨kW, 2, none⟩ = some (.int .u64 U) := by rw [cell_at H.out.wt]; rfl
  have x3 : ws.cell? ⟨kW, 3, none⟩ = some (.string S) := by rw [cell_at H.out.wt]; rfl
  have x4 : ws.cell? ⟨kW, 4, none⟩ = some v2 := by rw [cell_at H.out.wt]; rfl
  obtain ⟨p1, n1, c1, rfl⟩ := H.out.r1.form
  obtain ⟨p2, n2, c2, rfl⟩ := H.out.r2.form
  have HQ := hide (beq_any _ _ o ws H.out.r1 H.out.r2)
  have hq := eql_self ea
  conv => arg 2; whnf
  dsimp only
  go_wp2_with (go_at_call 12; refine HQ.out.mono ?_; rintro e w1 ⟨rfl, hb1⟩; have e1 := (hb1.cell (p := ⟨0, 0, none⟩) (by exact cell_lt H.out.e)).trans H.out.e)
  all_goals exact hQ.out _ _ rfl rfl (H.out.bel.trans (hb1.mono H.out.hi))
end Go.Proofs.YbulkdtayFmt
