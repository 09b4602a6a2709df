import Derived.Test.YbulkdtayFmtLawC
import Derived.Test.YbulkdtayFmtTie
import Derived.Test.YbulkdtayFmtCards
import Derived.ProofKit
import Derived.Stop.JoinedAt
import Derived.Stop.JoinedTold
import Derived.Stop.Texts
import Derived.Stop.ErrReads
import Derived.Stop.LaidErr
import Derived.OpenShut
import Derived.SevenToldRow
import Derived.SevenTiedAt
import Derived.Below
import Derived.ChangeOld
import Derived.Deep.DeepLaidRun
namespace Go.Proofs.YbulkdtayFmt.lawS5991CWhole
open Go.ChangeShapes Go.WideShapes Go.ChangeAt Go.RowKit Go.Kit
open Go.Extern.Stop Go.Stop Go.Extern
set_option linter.unusedVariables false

theorem own : ownKnob Ybaf.prog.godebug = none := by kernel_rfl
theorem laidOut : laidOutB Ybaf.pinned.checked.prog = true := by kernel_rfl
theorem laidOut' : laidOutB Ybaf.prog = true := by kernel_rfl
theorem stops : Ybaf.pinned.checked.prog.stops = ["fmt.errorf"] := by kernel_rfl
theorem stopKnobs : Ybaf.pinned.checked.prog.stopKnobs = [] := by kernel_rfl
theorem quiet (os : Os) : Stop.quiet Ybaf.pinned.checked.prog os := by
  intro k hk
  rw [stopKnobs] at hk
  cases hk

/-- The name of the k-th listed variable. -/
def nameAt (k : Nat) : String := (Rows.lawS5991CWholeRow.laid.map (fun x => x.1)).getD k ""
theorem gR : Ybaf.prog.globalNamed (nameAt 3) = some 2 := by kernel_rfl
theorem gS : Ybaf.prog.globalNamed (nameAt 4) = some 1 := by kernel_rfl
theorem gRType : (Ybaf.prog.globals[2]?).map (·.type) = some 32 := by kernel_rfl
theorem gSType : (Ybaf.prog.globals[1]?).map (·.type) = some 32 := by kernel_rfl
theorem cells74 : Ybaf.prog.cellsOf 74 = 1 := by kernel_rfl
theorem cells9 : Ybaf.prog.cellsOf 9 = 1 := by kernel_rfl
theorem row72 (u : TypeId) {nm : String} {d : DataW Unit} (hd : Rows.laid_strconv_ErrRange = .iface nm d) (h : Ybaf.prog.typeName? 3 u = some nm) : u = 72 := by
  cases hd
  exact typeName_ptr_named (nm := "errors.errorString") (by kernel_rfl) (by kernel_rfl) (by decide) u (h.trans (congrArg some (by decide)))
theorem row72' (u : TypeId) {nm : String} {d : DataW Unit} (hd : Rows.laid_strconv_ErrSyntax = .iface nm d) (h : Ybaf.prog.typeName? 3 u = some nm) : u = 72 := by
  cases hd
  exact typeName_ptr_named (nm := "errors.errorString") (by kernel_rfl) (by kernel_rfl) (by decide) u (h.trans (congrArg some (by decide)))

/-- The cells of a listed table. -/
def valsOf : DataW Unit → Array Value
  | .agg l => (l.map fun | .lit x => x.value | _ => undef).toArray
  | _ => #[]
/-- The bytes of a listed sentinel's text. -/
def textOf : DataW Unit → ByteArray
  | .iface _ (.ptr (.agg [.lit (.string l)])) => ⟨l.toArray⟩
  | _ => ByteArray.empty
def putAt (cs : Array Value) : Obj → Obj
  | .cells _ t frozen => .cells cs t frozen
  | o => o
/-- A world in which the five variables are laid. -/
def laidWorld (P : Program) (low : Nat) (os : Os) : World :=
  let w0 := World.holding P os ⟨#[.cells #[.string (textOf Rows.laid_strconv_ErrRange)] 74, .cells #[.string (textOf Rows.laid_strconv_ErrSyntax)] 74], #[], []⟩
  { w0 with heap := ((((w0.heap.modify 4 (putAt (valsOf Rows.laid_math_bits_deBruijn32tab))).modify 5 (putAt (valsOf Rows.laid_math_bits_deBruijn64tab))).modify 3 (putAt (valsOf Rows.laid_internal_strconv_uint64pow10))).modify 2 (putAt #[.iface 72 (.pointer (some ⟨low, 0, none⟩))])).modify 1 (putAt #[.iface 72 (.pointer (some ⟨low + 1, 0, none⟩))]) }
theorem laid_met (os : Os) (args : Array Value) : laidMet Ybaf.prog Rows.lawS5991CWholeRow.laid ((laidWorld Ybaf.prog (World.holding Ybaf.prog default ⟨#[], #[], []⟩).heap.size os).forCall (fun _ _ => 0) ⟨#[], args, []⟩).memory :=
  laidMet_of_run3 8 (by kernel_rfl) (by kernel_rfl) (by kernel_rfl)

theorem var?_below {P : Program} {B g : Nat} {W W' : World} {n : String} {cs : Array Value} (h : Below B W W') (hg : P.globalNamed n = some g) (hgB : g < B) (hv : W.var? P n = some cs) : W'.var? P n = some cs := by
  unfold World.var? at hv ⊢
  simp only [hg, Option.bind_some] at hv ⊢
  rw [h.block g hgB]
  exact hv

theorem addr_form {w : World} {x : Addr} {v : Value} (h : w.cell? (x.add 0) = some v) : ∃ b off, x = ⟨b, off, none⟩ := by
  obtain ⟨b, off, sp⟩ := x
  cases sp with
  | none => exact ⟨b, off, rfl⟩
  | some q =>
    simp only [Addr.add, World.cell?] at h
    split at h <;> simp at h

theorem bytes_of {H : Type} {enc : TypeId × Value → H} {W : World} {base : Nat} {held : Bool} {a : Option Addr} {len cap : Nat} {d : DataW H} {p : List MemPlace}
    (h : DataW.Trod enc Ybaf.prog W base (fun _ => true) held 22 (.slice a len cap) d p) : ∃ b, IsBytes W a len cap b := by
  obtain ⟨fuel, hf⟩ := h
  rcases open_ints Ybaf.underlying22 Ybaf.underlying5 (by kernel_rfl) hf with ⟨hcs, _⟩ | ⟨x, l, c, zs, hcs, _, hl, hm, hz, _, hcell, hwz⟩
  · simp [Value.cells] at hcs
    obtain ⟨rfl, rfl, rfl⟩ := hcs
    exact ⟨fun _ => 0, Nat.le_refl _, by omega, fun _ => by show (0 : Nat) < 256; omega, fun h => absurd h (by omega)⟩
  · simp [Value.cells] at hcs
    obtain ⟨rfl, rfl, rfl⟩ := hcs
    have hz' : zs.length = cap := by simpa using hz
    have hb : ∀ j, 0 ≤ zs.getD j 0 ∧ zs.getD j 0 ≤ 255 := fun j => by
      by_cases hj : j < zs.length
      · have h1 := hwz (zs.getD j 0) (by simp [List.getD, List.getElem?_eq_getElem hj])
        simp [Lit.wf, IntKind.min, IntKind.max, IntKind.signed, IntKind.bits] at h1
        simp [List.getD]
        omega
      · simp [List.getD, List.getElem?_eq_none (Nat.le_of_not_lt hj)]
    refine ⟨fun j => (zs.getD j 0).toNat, hl, by unfold maxLen at hm; omega, fun j => by show (zs.getD j 0).toNat < 256; have := hb j; omega, fun hp => ?_⟩
    obtain ⟨g, off, rfl⟩ := addr_form (hcell 0 (by omega))
    refine ⟨g, off, rfl, fun j hj => ?_⟩
    have h1 := hcell j (by omega)
    rw [Addr.add_lit] at h1
    rw [h1]
    have := hb j
    rw [Int.toNat_of_nonneg this.1]

set_option maxRecDepth 100000 in
set_option maxHeartbeats 1600000 in
theorem lifted (os : Os) (started : os.Started) (H : Type) (enc : TypeId × Value → H) :
    ReturnsInTold none {} Ybaf.checked os 4 .any Input.okWide ((OpenSpec.ofChange Rows.lawS5991CWholeSpec).preRow enc Ybaf.prog Ybaf.f4 [] false Rows.lawS5991CWholeRow.laid) (fun F => ((OpenSpec.ofChange Rows.lawS5991CWholeSpec).at F).post enc Ybaf.prog Ybaf.f4 false true false false) (aloneAtReturn Ybaf.prog) nothingAlways := by
  refine returnsInTold_of_row (C := Ybaf.checked) (s := OpenSpec.ofChange Rows.lawS5991CWholeSpec) (by kernel_rfl) own started (by kernel_rfl) Ybaf.func4
    (OpenSpec.witness_stopped_at (enc := enc) (C := Ybaf.checked) false (laidWorld Ybaf.prog (World.holding Ybaf.prog default ⟨#[], #[], []⟩).heap.size os) #[.int .u8 0, .int .i64 0, .slice none 0 0, .int .i64 0, .int .i64 0] rfl (by kernel_rfl) (by kernel_rfl) (by kernel_rfl)
      (OpenSpec.preRow_of_B rfl 8 (by kernel_rfl) (by kernel_rfl) (laid_met os _))) ?_
  intro F W base0 args ds gs before _ hF hval0 hW _ _ _ hL _
  have hval : ∀ (j : Nat) t v, Ybaf.f4.params[j]? = some t → args[j]? = some v → Value.okWide Ybaf.prog W .any base0 t v := hval0
  have hW' := hW
  obtain ⟨p, q, hA0, hV0, rfl, hfz, hnd⟩ := hW
  have hA : DataW.TrodAll enc Ybaf.prog W 0 (fun _ => true) true Ybaf.f4.params.toList args.toList ds p := hA0
  rw [Ybaf.params4] at hA hval
  obtain ⟨v0, vs0, d0, ds0, p0, q0, hargs, rfl, rfl, h0, r0⟩ := trodAll_cons hA
  obtain ⟨v1, vs1, d1, ds1, p1, q1, rfl, rfl, rfl, h1, r1⟩ := trodAll_cons r0
  obtain ⟨v2, vs2, d2, ds2, p2, q2, rfl, rfl, rfl, h2, r2⟩ := trodAll_cons r1
  obtain ⟨v3, vs3, d3, ds3, p3, q3, rfl, rfl, rfl, h3, r3⟩ := trodAll_cons r2
  obtain ⟨v4, vs4, d4, ds4, p4, q4, rfl, rfl, rfl, h4, r4⟩ := trodAll_cons r3
  obtain ⟨rfl, rfl, rfl⟩ := trodAll_nil r4
  obtain rfl : args = #[v0, v1, v2, v3, v4] := by cases args; simp_all
  obtain ⟨rfl, rfl⟩ := trodVars_none hV0
  obtain ⟨x0, rfl, rfl, rfl, w0⟩ := open_int Ybaf.underlying5 (hval 0 5 v0 rfl rfl) h0
  obtain ⟨x1, rfl, rfl, rfl, w1⟩ := open_int Ybaf.underlying2 (hval 1 2 v1 rfl rfl) h1
  obtain ⟨a2, len2, cap2, rfl⟩ := okWide_slice Ybaf.underlying22 (hval 2 22 v2 rfl rfl)
  have k2 := h2
  have lt2 : ∀ x ∈ p2, x.block < W.heap.size := by obtain ⟨m, hm⟩ := k2; exact DataW.trod_lt m _ _ _ hm
  obtain ⟨b, hb⟩ := bytes_of h2
  obtain ⟨x3, rfl, rfl, rfl, w3⟩ := open_int Ybaf.underlying2 (hval 3 2 v3 rfl rfl) h3
  obtain ⟨x4, rfl, rfl, rfl, w4⟩ := open_int Ybaf.underlying2 (hval 4 2 v4 rfl rfl) h4
  have hL5 : laidMet Ybaf.prog Rows.lawS5991CWholeRow.laid W := hL
  have hL2 := hL5.tail.tail.tail
  have hL1 := hL2.tail
  obtain ⟨er, _, hvr, _, _, _⟩ := laid_sentinel hL2 gR gRType Ybaf.underlying32 (fun u hu => row72 u rfl hu) Ybaf.underlying72 Ybaf.underlying74 rfl rfl Ybaf.underlying9 cells74 cells9
  obtain ⟨es, _, hvs, _, _, _⟩ := laid_sentinel hL1 gS gSType Ybaf.underlying32 (fun u hu => row72' u rfl hu) Ybaf.underlying72 Ybaf.underlying74 rfl rfl Ybaf.underlying9 cells74 cells9
  have hcr : W.cell? ⟨2, 0, none⟩ = some (.iface 72 (.pointer (some er))) := by simpa using World.var?_cell gR hvr 0
  have hcs : W.cell? ⟨1, 0, none⟩ = some (.iface 72 (.pointer (some es))) := by simpa using World.var?_cell gS hvs 0
  clear hA0 hval0 hL hL5 hL2 hL1 hvr hvs
  have hp0 : 0 ≤ x0 ∧ x0 ≤ 255 := by
    have := w0
    simp [Lit.wf, IntKind.min, IntKind.max, IntKind.signed, IntKind.bits] at this
    omega
  have hp1 : -9223372036854775808 ≤ x1 ∧ x1 ≤ 9223372036854775807 := by
    have := w1
    simp [Lit.wf, IntKind.min, IntKind.max, IntKind.signed, IntKind.bits] at this
    omega
  have hwalk : Calls Ybaf.prog 4 #[.int .u8 x0, .int .i64 x1, .slice a2 len2 cap2, .int .i64 x3, .int .i64 x4] W fun e W' => e = .returned (.bool true) ∧ Below W.heap.size W W' := by
    obtain ⟨n0, rfl⟩ := Int.eq_ofNat_of_zero_le hp0.1
    have hl1 := hb.1
    have hl2 := hb.2.1
    by_cases hbig : 1048576 < len2
    · exact lawC_big _ _ _ _ _ _ _ _ (by omega) hbig
    · exact lawC_any F.told n0 x1 a2 len2 cap2 b x3 x4 72 72 _ _ W (by omega) hp1.1 hp1.2 hF hb (by omega) hcs hcr
  refine hwalk.mono fun e W' ⟨he, bel⟩ => ?_
  subst he
  exact ⟨_, rfl, _, _, _, [], _, [], hW', trodAll_mk1 (shut_bool Ybaf.underlying4 _), (trodAll_cons_mk (shut_int Ybaf.underlying5 w0) (trodAll_cons_mk (shut_int Ybaf.underlying2 w1) (trodAll_cons_mk (Below.trod laidOut' (by kernel_rfl) (of_decide_eq_true (by kernel_rfl)) k2 bel lt2) (trodAll_cons_mk (shut_int Ybaf.underlying2 w3) (trodAll_cons_mk (shut_int Ybaf.underlying2 w4) trodAll_mk0))))), rfl, bel.frame _, fun h => by cases h⟩

theorem over : Claim7.holds Ybaf.pinned (.plain (OpenSpec.ofChange Rows.lawS5991CWholeSpec)) Rows.lawS5991CWholeCard :=
  Claim7.holds_of_told_tied_any_at .later 4 Ybaf.f4 "fmt.errorf" [] [] _ _ _ _ _ (by kernel_rfl) rfl rfl rfl laidOut (by kernel_rfl) rfl ⟨rfl, rfl, rfl, rfl, rfl, rfl, rfl⟩ rfl rfl (by kernel_rfl) (by kernel_rfl) Ybaf.func4 (by kernel_rfl)
    (of_decide_eq_true (by kernel_rfl)) (of_decide_eq_true (by kernel_rfl)) stops.symm rfl stopKnobs.symm (by kernel_rfl)
    (by kernel_rfl) (by kernel_rfl) (by kernel_rfl) (by kernel_rfl) (by kernel_rfl) (by kernel_rfl) (by kernel_rfl) (by kernel_rfl) (by kernel_rfl) rfl (by kernel_rfl) rfl rfl
    rfl rfl
    rfl (by kernel_rfl) (by kernel_rfl) (by kernel_rfl) (by decide) (by kernel_rfl) lawS5991CWhole_row_tie
    (OpenClaim.moreEntering_of (by kernel_rfl) (by kernel_rfl) (by kernel_rfl) (by kernel_rfl) (by kernel_rfl) (by kernel_rfl) (by kernel_rfl) (by kernel_rfl) (by kernel_rfl) (by kernel_rfl))
    ⟨_, WideRow.started_initial, quiet _⟩
    (fun os started _ H enc _ => lifted os started H enc)

/-- THE STATEMENT -/
theorem proved : Rows.LawS5991CWholeToldSaid := over
end Go.Proofs.YbulkdtayFmt.lawS5991CWhole
