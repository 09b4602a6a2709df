import Derived.Test.YbulkdtcoLaw
import Derived.WalkKit
import Derived.ProofKit
import Derived.OpenShut
import Derived.ShutString
import Derived.ChangeOld
import Derived.Below
import Derived.Deep.Slices
import Derived.Deep.Strs
namespace Go.Proofs.Ybulkdtco.lawS5994AWhole
open Go.ChangeShapes Go.WideShapes Go.ChangeAt Go.RowKit
open Go.ChangeMaps (open_string shut_string)
set_option linter.unusedVariables false

theorem own : ownKnob Yba.prog.godebug = none := by kernel_rfl
theorem laidOut : laidOutB Yba.prog = true := by kernel_rfl
theorem cells9 : Yba.prog.cellsOf 9 = 1 := by kernel_rfl
theorem cells28 : Yba.prog.cellsOf 28 = 1 := by kernel_rfl
theorem cells4 : Yba.prog.cellsOf 4 = 1 := by kernel_rfl

def ent0 : Ent := ⟨ByteArray.empty, 0, false⟩

theorem addr_form {w : World} {x : Addr} {v : Value} (h : w.cell? x = some v) : ∃ b off, x = ⟨b, off, none⟩ := by
  obtain ⟨b, off, sp⟩ := x
  cases sp with
  | none => exact ⟨b, off, rfl⟩
  | some q =>
    simp only [World.cell?] at h
    split at h <;> simp at h

/-- One element of the slice. -/
theorem one {H : Type} {enc : TypeId × Value → H} {W : World} {base n : Nat} {spare : Nat → Bool} {held : Bool} {x : Addr} {cs : List Value} {z : DataW H × List MemPlace}
    (h1 : W.cells? base x (Yba.prog.cellsOf 30) = some cs) (h2 : DataW.trod enc Yba.prog W base spare held n 30 cs = some z) :
    ∃ e : Ent, W.cell? (x.add 0) = some (.string e.key) ∧ W.cell? (x.add 1) = some (.int .u64 e.cnt) ∧ W.cell? (x.add 2) = some (.bool e.nul) ∧ e.key.size ≤ maxLen := by
  rw [Yba.cells30] at h1
  obtain ⟨_, hlen, hcell⟩ := World.cells?_some h1
  obtain ⟨y0, y1, y2, m, _, _, g0, g1, g2⟩ := Deep.trod_struct3 Yba.underlying30 h2
  match cs, hlen with
  | [v0, v1, v2], _ =>
    simp [cells9, cells28, cells4] at g0 g1 g2
    obtain ⟨s, e0, _, hs⟩ := DataW.trod_string Yba.underlying9 g0
    obtain ⟨d, e1, _, _⟩ := DataW.trod_int Yba.underlying28 g1
    obtain ⟨b, e2, _⟩ := DataW.trod_bool Yba.underlying4 g2
    simp at e0 e1 e2
    subst e0 e1 e2
    exact ⟨⟨s, d, b⟩, hcell 0 (by omega), hcell 1 (by omega), hcell 2 (by omega), hs⟩

theorem opened {H : Type} {enc : TypeId × Value → H} {W : World} {base : Nat} {spare : Nat → Bool} {held : Bool} {a : Option Addr} {len cap : Nat} {d : DataW H} {p : List MemPlace}
    (h : DataW.Trod enc Yba.prog W base spare held 22 (.slice a len cap) d p) : ∃ e, IsEnt W a len cap e := by
  obtain ⟨fuel, hf⟩ := h
  rcases Deep.open_slice Yba.underlying22 hf with ⟨hcs, _⟩ | ⟨x, l, c, m, n, D, Pl, hcs, _, hl, hm, hmm, _, hx⟩
  · simp [Value.cells] at hcs
    obtain ⟨rfl, rfl, rfl⟩ := hcs
    exact ⟨fun _ => ent0, Nat.le_refl _, by omega, fun j hj => absurd hj (by omega), fun h => absurd h (by omega)⟩
  · simp [Value.cells] at hcs
    obtain ⟨rfl, rfl, rfl⟩ := hcs
    have hlm : len ≤ m := by rw [hmm]; split <;> omega
    have inh : Inhabited Ent := ⟨ent0⟩
    obtain ⟨e, he⟩ := Deep.choose_lt (n := m) (fun i hi => by
      obtain ⟨cs, h1, h2⟩ := hx i hi
      exact one h1 h2)
    refine ⟨e, hl, by unfold maxLen at hm; omega, fun j hj => (he j (by omega)).2.2.2, fun hp => ?_⟩
    have hc : ∀ i, i < m → W.cell? (x.add (i * 3)) = some (.string (e i).key) ∧ W.cell? (x.add (i * 3 + 1)) = some (.int .u64 (e i).cnt) ∧ W.cell? (x.add (i * 3 + 2)) = some (.bool (e i).nul) := fun i hi => by
      obtain ⟨c0, c1, c2, _⟩ := he i hi
      rw [Yba.cells30] at c0 c1 c2
      rw [Deep.add_add] at c0 c1 c2
      exact ⟨c0, c1, c2⟩
    obtain ⟨b, off, rfl⟩ : ∃ b off, x = ⟨b, off, none⟩ := by
      have h0 := (hc 0 (by omega)).1
      obtain ⟨b, off, sp⟩ := x
      cases sp with
      | none => exact ⟨b, off, rfl⟩
      | some q =>
        obtain ⟨b', off', h'⟩ := addr_form h0
        simp [Addr.add] at h'
    refine ⟨b, off, rfl, fun j hj => ?_⟩
    obtain ⟨c0, c1, c2⟩ := hc j (by omega)
    rw [Addr.add_lit] at c0 c1 c2
    exact ⟨c0, c1, c2⟩

theorem walk (a0 : Option Addr) (len cap : Nat) (e : Nat → Ent) (s : ByteArray) (p : Int) (u : Bool) (w : World) (h0 : IsEnt w a0 len cap e) (hs : s.size ≤ maxLen) (w2 : (Lit.int .u8 p).wf = true) :
    Calls Yba.prog 3 #[.slice a0 len cap, .int .u8 p, .string s, .bool u] w fun e w' => e = .returned (.bool true) ∧ Below w.heap.size w w' := by
  have hp : 0 ≤ p ∧ p ≤ 255 := by
    have := w2
    simp [Lit.wf, IntKind.min, IntKind.max, IntKind.signed, IntKind.bits] at this
    omega
  obtain ⟨q, rfl⟩ : ∃ q : Nat, p = (q : Int) := ⟨p.toNat, by omega⟩
  have hb := h0.1
  have hc := h0.2.1
  by_cases hbig : 4096 < len
  · exact law_big _ _ _ _ _ _ _ (by omega) hbig
  · rcases Nat.eq_zero_or_pos len with rfl | hp
    · exact law_nil a0 cap _ s u w e h0
    · exact law_pos a0 len cap q s u w e (by omega) hs h0 (by omega) hp

set_option maxRecDepth 100000 in
theorem lifted (os : Os) (started : os.Started) (H : Type) (enc : TypeId × Value → H) :
    ReturnsInHanded {} Yba.checked os 3 .any (Rows.lawS5994AWholeSpec.pre6 enc Yba.prog Yba.f3 Rows.lawS5994AWholeRow.domain false) (Rows.lawS5994AWholeSpec.post enc Yba.prog Yba.f3 false true false false) := by
  refine returnsInHanded_of_change (C := Yba.checked) own started (by kernel_rfl) Yba.func3
    (ChangeSpec.witness6 (enc := enc) (C := Yba.checked) false ⟨#[], #[.slice none 0 0, .int .u8 0, .string ByteArray.empty, .bool false], []⟩ 8 (by kernel_rfl) (by kernel_rfl) (by kernel_rfl) (by kernel_rfl)) ?_
  intro W base args ds gs before hval0 hW hcnd _
  have hval : ∀ (j : Nat) t v, Yba.f3.params[j]? = some t → args[j]? = some v → Value.okWide Yba.prog W .any base t v := hval0
  have hW' := hW
  obtain ⟨p, q, hA0, hV, rfl, hfz, hnd⟩ := hW
  have hA : DataW.TrodAll enc Yba.prog W 0 (fun _ => true) true Yba.f3.params.toList args.toList ds p := hA0
  rw [Yba.params3] at hA hval
  obtain ⟨v0, vs0, d0, ds0, p0, q0, hargs, rfl, rfl, h0, r0⟩ := trodAll_cons hA
  obtain ⟨v1, vs1, d1, ds1, p1, q1, rfl, rfl, rfl, h1, r1⟩ := trodAll_cons r0
  obtain ⟨v2, vs2, d2, ds2, p2, q2, rfl, rfl, rfl, h2, r2⟩ := trodAll_cons r1
  obtain ⟨v3, vs3, d3, ds3, p3, q3, rfl, rfl, rfl, h3, r3⟩ := trodAll_cons r2
  obtain ⟨rfl, rfl, rfl⟩ := trodAll_nil r3
  obtain rfl : args = #[v0, v1, v2, v3] := by cases args; simp_all
  obtain ⟨rfl, rfl⟩ := trodVars_none hV
  obtain ⟨a0, len0, cap0, rfl⟩ := okWide_slice Yba.underlying22 (hval 0 22 v0 rfl rfl)
  have k0 := h0
  have lt0 : ∀ x ∈ p0, x.block < W.heap.size := by obtain ⟨m, hm⟩ := k0; exact DataW.trod_lt m _ _ _ hm
  obtain ⟨e0, w0⟩ := opened h0
  obtain ⟨a1, rfl, rfl, rfl, w1⟩ := open_int Yba.underlying5 (hval 1 5 v1 rfl rfl) h1
  obtain ⟨s, rfl, rfl, rfl, hs⟩ := open_string Yba.underlying9 (hval 2 9 v2 rfl rfl) h2
  obtain ⟨u, rfl, rfl, rfl⟩ := open_bool Yba.underlying4 (hval 3 4 v3 rfl rfl) h3
  clear hA0 hval0
  refine (walk a0 len0 cap0 e0 s a1 u W w0 hs w1).mono fun e W' ⟨he, bel⟩ => ?_
  subst he
  exact ⟨_, rfl, _, _, _, [], _, [], hW', trodAll_mk1 (shut_bool Yba.underlying4 _), (trodAll_cons_mk (Below.trod laidOut (by kernel_rfl) (of_decide_eq_true (by kernel_rfl)) k0 bel lt0) (trodAll_cons_mk (shut_int Yba.underlying5 w1) (trodAll_cons_mk (shut_string Yba.underlying9 hs) (trodAll_cons_mk (shut_bool Yba.underlying4 u) trodAll_mk0)))), rfl, bel.frame _, fun h => by cases h⟩

theorem over : Rows.lawS5994AWholeRow.holds Yba.pinned (OpenSpec.ofChange Rows.lawS5994AWholeSpec) :=
  OpenClaim.holds_of_wide 3 Yba.f3 rfl rfl rfl rfl rfl rfl rfl ⟨rfl, rfl, rfl, rfl, rfl⟩ rfl rfl rfl rfl rfl (by kernel_rfl) Yba.func3 (by kernel_rfl)
    (of_decide_eq_true (by kernel_rfl)) (by unfold Func.isWrapper; first | (rw [if_pos (by decide +kernel)]; kernel_rfl) | (rw [if_neg (by decide +kernel)]; exact ⟨rfl, rfl⟩))
    (fun os started H enc _ => lifted os started H enc)

/-- THE STATEMENT -/
theorem proved : Rows.LawS5994AWholeSaid := over
end Go.Proofs.Ybulkdtco.lawS5994AWhole
