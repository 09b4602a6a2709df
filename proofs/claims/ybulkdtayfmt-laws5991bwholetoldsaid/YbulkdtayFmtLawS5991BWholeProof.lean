import Derived.Test.YbulkdtayFmtLawB
import Derived.Test.YbulkdtayFmtTie
import Derived.Test.YbulkdtayFmtCards
import Derived.ProofKit
import Derived.Stop.JoinedAt
import Derived.Stop.JoinedTold
import Derived.Stop.Texts
import Derived.Stop.ErrReads
import Derived.Stop.LaidErr
import Derived.OpenShut
import Derived.SevenToldRow
import Derived.SevenTiedAt
import Derived.Below
import Derived.ChangeOld
namespace Go.Proofs.YbulkdtayFmt.lawS5991BWhole
open Go.ChangeShapes Go.WideShapes Go.ChangeAt Go.RowKit Go.Kit
open Go.Extern.Stop Go.Stop Go.Extern
set_option linter.unusedVariables false

theorem own : ownKnob Ybaf.prog.godebug = none := by kernel_rfl
theorem laidOut : laidOutB Ybaf.pinned.checked.prog = true := by kernel_rfl
theorem laidOut' : laidOutB Ybaf.prog = true := by kernel_rfl
theorem stops : Ybaf.pinned.checked.prog.stops = ["fmt.errorf"] := by kernel_rfl
theorem stopKnobs : Ybaf.pinned.checked.prog.stopKnobs = [] := by kernel_rfl
theorem quiet (os : Os) : Stop.quiet Ybaf.pinned.checked.prog os := by
  intro k hk
  rw [stopKnobs] at hk
  cases hk

theorem gE {n : String} (h : Rows.lawS5991BWholeSpec.vars = [n]) : Ybaf.prog.globalNamed n = some 0 := by
  cases h
  kernel_rfl
theorem gEType : (Ybaf.prog.globals[0]?).map (·.type) = some 32 := by kernel_rfl
theorem cells74 : Ybaf.prog.cellsOf 74 = 1 := by kernel_rfl
theorem cells9 : Ybaf.prog.cellsOf 9 = 1 := by kernel_rfl
theorem row72 (u : TypeId) {nm : String} {d : DataW Unit} (hd : Rows.laid_example_com_shelfmap_shelfmap_internal_snmp_errMalformed = .iface nm d) (h : Ybaf.prog.typeName? 3 u = some nm) : u = 72 := by
  cases hd
  exact typeName_ptr_named (nm := "errors.errorString") (by kernel_rfl) (by kernel_rfl) (by decide) u (h.trans (congrArg some (by decide)))

abbrev malS : ByteArray := { data := #[115, 110, 109, 112, 58, 32, 109, 97, 108, 102, 111, 114, 109, 101, 100, 32, 109, 101, 115, 115, 97, 103, 101] }
/-- A world in which the sentinel is laid. -/
def laidWorld (P : Program) (low : Nat) (os : Os) (s : ByteArray) : World :=
  let w0 := World.holding P os ⟨#[.cells #[.string s] 74], #[], []⟩
  { w0 with heap := w0.heap.modify 0 fun
      | .cells _ t frozen => .cells #[.iface 72 (.pointer (some ⟨low, 0, none⟩))] t frozen
      | o => o }
theorem laid_met (os : Os) (args : Array Value) : laidMet Ybaf.prog Rows.lawS5991BWholeRow.laid ((laidWorld Ybaf.prog (World.holding Ybaf.prog default ⟨#[], #[], []⟩).heap.size os malS).forCall (fun _ _ => 0) ⟨#[], args, []⟩).memory :=
  laidMet_of_run (ps := [.cell 0 0, .cell (World.holding Ybaf.prog default ⟨#[], #[], []⟩).heap.size 0]) 8 (by kernel_rfl) (by kernel_rfl) (by kernel_rfl)

theorem var?_below {P : Program} {B g : Nat} {W W' : World} {n : String} {cs : Array Value} (h : Below B W W') (hg : P.globalNamed n = some g) (hgB : g < B) (hv : W.var? P n = some cs) : W'.var? P n = some cs := by
  unfold World.var? at hv ⊢
  simp only [hg, Option.bind_some] at hv ⊢
  rw [h.block g hgB]
  exact hv

theorem addr_form {w : World} {x : Addr} {v : Value} (h : w.cell? (x.add 0) = some v) : ∃ b off, x = ⟨b, off, none⟩ := by
  obtain ⟨b, off, sp⟩ := x
  cases sp with
  | none => exact ⟨b, off, rfl⟩
  | some q =>
    simp only [Addr.add, World.cell?] at h
    split at h <;> simp at h

theorem bytes_of {H : Type} {enc : TypeId × Value → H} {W : World} {base : Nat} {held : Bool} {a : Option Addr} {len cap : Nat} {d : DataW H} {p : List MemPlace}
    (h : DataW.Trod enc Ybaf.prog W base (fun _ => true) held 22 (.slice a len cap) d p) : ∃ b, IsBytes W a len cap b := by
  obtain ⟨fuel, hf⟩ := h
  rcases open_ints Ybaf.underlying22 Ybaf.underlying5 (by kernel_rfl) hf with ⟨hcs, _⟩ | ⟨x, l, c, zs, hcs, _, hl, hm, hz, _, hcell, hwz⟩
  · simp [Value.cells] at hcs
    obtain ⟨rfl, rfl, rfl⟩ := hcs
    exact ⟨fun _ => 0, Nat.le_refl _, by omega, fun _ => by show (0 : Nat) < 256; omega, fun h => absurd h (by omega)⟩
  · simp [Value.cells] at hcs
    obtain ⟨rfl, rfl, rfl⟩ := hcs
    have hz' : zs.length = cap := by simpa using hz
    have hb : ∀ j, 0 ≤ zs.getD j 0 ∧ zs.getD j 0 ≤ 255 := fun j => by
      by_cases hj : j < zs.length
      · have h1 := hwz (zs.getD j 0) (by simp [List.getD, List.getElem?_eq_getElem hj])
        simp [Lit.wf, IntKind.min, IntKind.max, IntKind.signed, IntKind.bits] at h1
        simp [List.getD]
        omega
      · simp [List.getD, List.getElem?_eq_none (Nat.le_of_not_lt hj)]
    refine ⟨fun j => (zs.getD j 0).toNat, hl, by unfold maxLen at hm; omega, fun j => by show (zs.getD j 0).toNat < 256; have := hb j; omega, fun hp => ?_⟩
    obtain ⟨g, off, rfl⟩ := addr_form (hcell 0 (by omega))
    refine ⟨g, off, rfl, fun j hj => ?_⟩
    have h1 := hcell j (by omega)
    rw [Addr.add_lit] at h1
    rw [h1]
    have := hb j
    rw [Int.toNat_of_nonneg this.1]

set_option maxRecDepth 100000 in
set_option maxHeartbeats 1600000 in
theorem lifted (os : Os) (started : os.Started) (H : Type) (enc : TypeId × Value → H) :
    ReturnsInTold none {} Ybaf.checked os 3 .any Input.okWide ((OpenSpec.ofChange Rows.lawS5991BWholeSpec).preRow enc Ybaf.prog Ybaf.f3 [] false Rows.lawS5991BWholeRow.laid) (fun F => ((OpenSpec.ofChange Rows.lawS5991BWholeSpec).at F).post enc Ybaf.prog Ybaf.f3 false true false false) (aloneAtReturn Ybaf.prog) nothingAlways := by
  refine returnsInTold_of_row (C := Ybaf.checked) (s := OpenSpec.ofChange Rows.lawS5991BWholeSpec) (by kernel_rfl) own started (by kernel_rfl) Ybaf.func3
    (OpenSpec.witness_stopped_at (enc := enc) (C := Ybaf.checked) false (laidWorld Ybaf.prog (World.holding Ybaf.prog default ⟨#[], #[], []⟩).heap.size os malS) #[.int .u8 0, .int .u8 0, .slice none 0 0] rfl (by kernel_rfl) (by kernel_rfl) (by kernel_rfl)
      (OpenSpec.preRow_of_B rfl 8 (by kernel_rfl) (by kernel_rfl) (laid_met os _))) ?_
  intro F W base0 args ds gs before _ hF hval0 hW _ _ _ hL _
  have hval : ∀ (j : Nat) t v, Ybaf.f3.params[j]? = some t → args[j]? = some v → Value.okWide Ybaf.prog W .any base0 t v := hval0
  have hW' := hW
  obtain ⟨p, q, hA0, hV0, rfl, hfz, hnd⟩ := hW
  have hA : DataW.TrodAll enc Ybaf.prog W 0 (fun _ => true) true Ybaf.f3.params.toList args.toList ds p := hA0
  rw [Ybaf.params3] at hA hval
  obtain ⟨v0, vs0, d0, ds0, p0, q0, hargs, rfl, rfl, h0, r0⟩ := trodAll_cons hA
  obtain ⟨v1, vs1, d1, ds1, p1, q1, rfl, rfl, rfl, h1, r1⟩ := trodAll_cons r0
  obtain ⟨v2, vs2, d2, ds2, p2, q2, rfl, rfl, rfl, h2, r2⟩ := trodAll_cons r1
  obtain ⟨rfl, rfl, rfl⟩ := trodAll_nil r2
  obtain rfl : args = #[v0, v1, v2] := by cases args; simp_all
  obtain ⟨x0, rfl, rfl, rfl, w0⟩ := open_int Ybaf.underlying5 (hval 0 5 v0 rfl rfl) h0
  obtain ⟨x1, rfl, rfl, rfl, w1⟩ := open_int Ybaf.underlying5 (hval 1 5 v1 rfl rfl) h1
  obtain ⟨a2, len2, cap2, rfl⟩ := okWide_slice Ybaf.underlying22 (hval 2 22 v2 rfl rfl)
  have k2 := h2
  have lt2 : ∀ x ∈ p2, x.block < W.heap.size := by obtain ⟨m, hm⟩ := k2; exact DataW.trod_lt m _ _ _ hm
  obtain ⟨b, hb⟩ := bytes_of h2
  obtain ⟨ea, s1, hv1, hc1, hs1, hz1⟩ := laid_sentinel hL (gE rfl) gEType Ybaf.underlying32 (fun u hu => row72 u rfl hu) Ybaf.underlying72 Ybaf.underlying74 rfl rfl Ybaf.underlying9 cells74 cells9
  obtain ⟨rfl, rfl⟩ := hV0.unique (vars_read1 enc (gE rfl) gEType Ybaf.underlying32 hv1 trivial _)
  clear hA0 hV0 hval0
  have hg1 : W.cell? ⟨0, 0, none⟩ = some (.iface 72 (.pointer (some ea))) := by simpa using World.var?_cell (gE rfl) hv1 0
  have h0lt : 0 < W.heap.size := by
    rcases Nat.lt_or_ge 0 W.heap.size with h | h
    · exact h
    · simp [World.cell?, Array.getElem?_eq_none h] at hg1
  have hp0 : 0 ≤ x0 ∧ x0 ≤ 255 := by
    have := w0
    simp [Lit.wf, IntKind.min, IntKind.max, IntKind.signed, IntKind.bits] at this
    omega
  have hp1 : 0 ≤ x1 ∧ x1 ≤ 255 := by
    have := w1
    simp [Lit.wf, IntKind.min, IntKind.max, IntKind.signed, IntKind.bits] at this
    omega
  have hwalk : Calls Ybaf.prog 3 #[.int .u8 x0, .int .u8 x1, .slice a2 len2 cap2] W fun e W' => e = .returned (.bool true) ∧ Below W.heap.size W W' := by
    obtain ⟨n0, rfl⟩ := Int.eq_ofNat_of_zero_le hp0.1
    obtain ⟨n1, rfl⟩ := Int.eq_ofNat_of_zero_le hp1.1
    have hl1 := hb.1
    have hl2 := hb.2.1
    by_cases hbig : 1048576 < len2
    · exact lawB_big _ _ _ _ _ _ (by omega) hbig
    · exact lawB_any F.told n0 n1 a2 len2 cap2 b ea W (by omega) hF hb (by omega) hg1
  refine hwalk.mono fun e W' ⟨he, bel⟩ => ?_
  subst he
  exact ⟨_, rfl, _, _, _, [], _, [.cell 0 0], hW', trodAll_mk1 (shut_bool Ybaf.underlying4 _), (trodAll_cons_mk (shut_int Ybaf.underlying5 w0) (trodAll_cons_mk (shut_int Ybaf.underlying5 w1) (trodAll_cons_mk (Below.trod laidOut' (by kernel_rfl) (of_decide_eq_true (by kernel_rfl)) k2 bel lt2) trodAll_mk0))), vars_read1 enc (gE rfl) gEType Ybaf.underlying32 (var?_below bel (gE rfl) h0lt hv1) trivial _, bel.frame _, fun h => by cases h⟩

theorem over : Claim7.holds Ybaf.pinned (.plain (OpenSpec.ofChange Rows.lawS5991BWholeSpec)) Rows.lawS5991BWholeCard :=
  Claim7.holds_of_told_tied_any_at .later 3 Ybaf.f3 "fmt.errorf" [] [] _ _ _ _ _ (by kernel_rfl) rfl rfl rfl laidOut (by kernel_rfl) rfl ⟨rfl, rfl, rfl, rfl, rfl, rfl, rfl⟩ rfl rfl (by kernel_rfl) (by kernel_rfl) Ybaf.func3 (by kernel_rfl)
    (of_decide_eq_true (by kernel_rfl)) (of_decide_eq_true (by kernel_rfl)) stops.symm rfl stopKnobs.symm (by kernel_rfl)
    (by kernel_rfl) (by kernel_rfl) (by kernel_rfl) (by kernel_rfl) (by kernel_rfl) (by kernel_rfl) (by kernel_rfl) (by kernel_rfl) (by kernel_rfl) rfl (by kernel_rfl) rfl rfl
    rfl rfl
    rfl (by kernel_rfl) (by kernel_rfl) (by kernel_rfl) (by decide) (by kernel_rfl) lawS5991BWhole_row_tie
    (OpenClaim.moreEntering_of (by kernel_rfl) (by kernel_rfl) (by kernel_rfl) (by kernel_rfl) (by kernel_rfl) (by kernel_rfl) (by kernel_rfl) (by kernel_rfl) (by kernel_rfl) (by kernel_rfl))
    ⟨_, WideRow.started_initial, quiet _⟩
    (fun os started _ H enc _ => lifted os started H enc)

/-- THE STATEMENT -/
theorem proved : Rows.LawS5991BWholeToldSaid := over
end Go.Proofs.YbulkdtayFmt.lawS5991BWhole
