import Derived.Test.YbulkdsziClone
import Derived.Test.YbulkdsziLawA
import Derived.WalkKit
import Derived.ProofKit
import Derived.OpenShut
import Derived.ShutString
import Derived.ChangeOld
import Derived.Below
namespace Go.Proofs.Ybulkdszi.lawS5988AWhole
open Go.ChangeShapes Go.WideShapes Go.ChangeAt Go.RowKit
open Go.ChangeMaps (open_string shut_string)
set_option linter.unusedVariables false

theorem own : ownKnob Yba.prog.godebug = none := by kernel_rfl
theorem laidOut : laidOutB Yba.prog = true := by kernel_rfl
theorem cells9 : Yba.prog.cellsOf 9 = 1 := by kernel_rfl
theorem cells22 : Yba.prog.cellsOf 22 = 15 := by kernel_rfl

theorem array15 {cs : Array Value} {S : Nat → ByteArray} (hs : cs.size = 15) (h : ∀ i, i < 15 → cs[i]? = some (.string (S i))) : cs = strs15 S := by
  apply Array.ext (by simpa [strs15] using hs)
  intro i h1 h2
  have hi : i < 15 := by omega
  have e1 := h i hi
  have e2 := strs15_at S i hi
  rw [Array.getElem?_eq_getElem h1] at e1
  rw [Array.getElem?_eq_getElem h2] at e2
  exact Option.some.inj (e1.trans e2.symm)

theorem take_one (l : List Value) (i : Nat) (s : ByteArray) (h : (l.drop i).take 1 = [.string s]) : l[i]? = some (.string s) := by
  cases hd : l.drop i with
  | nil => rw [hd] at h; simp at h
  | cons a t =>
    rw [hd] at h
    simp at h
    have := List.getElem?_drop (xs := l) (i := i) (j := 0)
    rw [hd] at this
    simp at this
    rw [← this, h]

/-- The string in cell i. -/
def strAt (cs : Array Value) (i : Nat) : ByteArray := match cs[i]? with
  | some (.string s) => s
  | _ => ByteArray.empty
theorem strAt_of {cs : Array Value} {i : Nat} {s : ByteArray} (h : cs[i]? = some (.string s)) : strAt cs i = s := by simp [strAt, h]
theorem strAt_none {cs : Array Value} {i : Nat} (h : cs[i]? = none) : strAt cs i = ByteArray.empty := by simp [strAt, h]

theorem open15 {H : Type} {enc : TypeId × Value → H} {W : World} {base b0 : Nat} {r : Reach} {spare : Nat → Bool} {held : Bool} {v : Value} {d : DataW H} {p : List MemPlace}
    (hv : Value.okWide Yba.prog W r b0 22 v) (h : DataW.Trod enc Yba.prog W base spare held 22 v d p) :
    ∃ S : Nat → ByteArray, v = .agg (strs15 S) ∧ (∀ j, (S j).size ≤ 9223372036854775807) ∧ ∀ j, 15 ≤ j → (S j).size = 0 := by
  obtain ⟨cs, rfl, hsz⟩ : ∃ cs, v = .agg cs ∧ cs.size = Yba.prog.cellsOf 22 := by
    unfold Value.okWide at hv
    rw [Yba.underlying22] at hv
    obtain ⟨cs, h1, h2, _⟩ := hv
    exact ⟨cs, h1, h2⟩
  rw [cells22] at hsz
  obtain ⟨fuel, hf⟩ := h
  obtain ⟨xs, m, _, _, _, hxl, he⟩ := DataW.trod_array Yba.underlying22 hf
  have each : ∀ i, i < 15 → ∃ s : ByteArray, cs[i]? = some (.string s) ∧ s.size ≤ maxLen := by
    intro i hi
    have h1 := he i hi
    rw [cells9, Nat.mul_one] at h1
    rw [List.getElem?_eq_getElem (by omega)] at h1
    obtain ⟨s, hs, _, hw⟩ := DataW.trod_string Yba.underlying9 h1
    refine ⟨s, ?_, hw⟩
    have := take_one _ i s hs
    simpa [Value.cells] using this
  refine ⟨strAt cs, congrArg Value.agg (array15 hsz fun i hi => ?_), fun j => ?_, fun j hj => ?_⟩
  · obtain ⟨s, hs, _⟩ := each i hi
    rw [hs, strAt_of hs]
  · rcases Nat.lt_or_ge j 15 with hj | hj
    · obtain ⟨s, hs, hw⟩ := each j hj
      rw [strAt_of hs]
      unfold maxLen at hw
      exact hw
    · rw [strAt_none (Array.getElem?_eq_none (by omega))]
      exact Nat.zero_le _
  · rw [strAt_none (Array.getElem?_eq_none (by omega))]
    rfl

set_option maxRecDepth 100000 in
theorem lifted (os : Os) (started : os.Started) (H : Type) (enc : TypeId × Value → H) :
    ReturnsInHanded {} Yba.checked os 3 .any (Rows.lawS5988AWholeSpec.pre6 enc Yba.prog Yba.f3 Rows.lawS5988AWholeRow.domain false) (Rows.lawS5988AWholeSpec.post enc Yba.prog Yba.f3 false true false false) := by
  refine returnsInHanded_of_change (C := Yba.checked) own started (by kernel_rfl) Yba.func3
    (ChangeSpec.witness6 (enc := enc) (C := Yba.checked) false ⟨#[], #[.agg zeros15], []⟩ 8 (by kernel_rfl) (by kernel_rfl) (by kernel_rfl) (by kernel_rfl)) ?_
  intro W base args ds gs before hval0 hW hcnd _
  have hval : ∀ (j : Nat) t v, Yba.f3.params[j]? = some t → args[j]? = some v → Value.okWide Yba.prog W .any base t v := hval0
  have hW' := hW
  obtain ⟨p, q, hA0, hV, rfl, hfz, hnd⟩ := hW
  have hA : DataW.TrodAll enc Yba.prog W 0 (fun _ => true) true Yba.f3.params.toList args.toList ds p := hA0
  rw [Yba.params3] at hA hval
  obtain ⟨v0, vs0, d0, ds0, p0, q0, hargs, rfl, rfl, h0, r0⟩ := trodAll_cons hA
  obtain ⟨rfl, rfl, rfl⟩ := trodAll_nil r0
  obtain rfl : args = #[v0] := by cases args; simp_all
  obtain ⟨rfl, rfl⟩ := trodVars_none hV
  have k0 := h0
  have lt0 : ∀ x ∈ p0, x.block < W.heap.size := by obtain ⟨m, hm⟩ := k0; exact DataW.trod_lt m _ _ _ hm
  obtain ⟨S, rfl, hS, hE⟩ := open15 (hval 0 22 v0 rfl rfl) h0
  clear hA0 hval0
  refine (lawA_walk (hid clone_any) S W hS hE).mono fun e W' ⟨he, bel⟩ => ?_
  subst he
  exact ⟨_, rfl, _, _, _, [], _, [], hW', trodAll_mk1 (shut_bool Yba.underlying4 _), (trodAll_cons_mk (Below.trod laidOut (by kernel_rfl) (of_decide_eq_true (by kernel_rfl)) k0 bel lt0) trodAll_mk0), rfl, bel.frame _, fun h => by cases h⟩

theorem over : Rows.lawS5988AWholeRow.holds Yba.pinned (OpenSpec.ofChange Rows.lawS5988AWholeSpec) :=
  OpenClaim.holds_of_wide 3 Yba.f3 rfl rfl rfl rfl rfl rfl rfl ⟨rfl, rfl, rfl, rfl, rfl⟩ rfl rfl rfl rfl rfl (by kernel_rfl) Yba.func3 (by kernel_rfl)
    (of_decide_eq_true (by kernel_rfl)) (by unfold Func.isWrapper; first | (rw [if_pos (by decide +kernel)]; kernel_rfl) | (rw [if_neg (by decide +kernel)]; exact ⟨rfl, rfl⟩))
    (fun os started H enc _ => lifted os started H enc)

/-- THE STATEMENT -/
theorem proved : Rows.LawS5988AWholeSaid := over
end Go.Proofs.Ybulkdszi.lawS5988AWhole
