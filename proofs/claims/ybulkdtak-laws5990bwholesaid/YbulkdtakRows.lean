/-
  No cell of these rows narrows 'for every input' (looked for: loops, veiled, ifaces, maps, wideKeys, modest, calm, conditions, laid).
  DERIVED. THE GIVEN ROWS OF THIS SEAT. 1 by the template 'for every input the law returns true; each argument reads behind the call as it read before'; 0 by the template 'total and deterministic' (their statements: YbulkdtakTotals.lean).
  GIVEN WITH THE SEED: the statements are not yours to turn. If you find one false, say at which input.
  Laid BY PROGRAM, IN A SANDBOX (cutbox-rows.mjs): the forced cells as the released guide's own fill.sh prints them over the translation 070a33b764e15ced… (all of the seat's roots in one cut). By AI agents, Wed Nov 11 2026. No macro, syntax, notation, axiom, sorry.
-/
import Derived.Test.YbulkdtakChecked
import GoSem.Claim
import GoSem.ClaimJoined
import GoSem.ClaimMapViews
import Derived.JoinedTies
import Derived.KernelRfl
namespace Go.Proofs.Ybulkdtak
/- THE CELL 'sum', in the pinned program and in every row, IS THE sha256 OF THE DUMP (.gsa) THAT YbulkdtakProg.lean LOADS. Nothing in Lean hashes anything: it is a label: what it is worth is what the hold of that sum in a sandbox is worth. -/
noncomputable def Yba.pinned : Pinned := { name := "ybulkdtak", sum := "070a33b764e15cedcab6d590693115c123e026becbbc4415d808c5d078627c7c", checked := Yba.checked }
namespace Rows
def none {H : Type} : Left H := { results := [], args := [] }

/-- 'config.LawS5990BWhole': WHATEVER THE INPUT: true; the input reads as it did. -/
def lawS5990BWholeSpec : ChangeSpec := { name := "lawS5990BWhole", fn := fun _ => fun
  | [d1, d2, d3, d4] => { results := [.lit (.bool true)], args := [d1, d2, d3, d4] }
  | _ => none }
def lawS5990BWholeRow : OpenClaim := { program := "ybulkdtak", sum := "070a33b764e15cedcab6d590693115c123e026becbbc4415d808c5d078627c7c", func := "example.com/suitegate/suitegate/internal/config.LawS5990BWhole", spec := "lawS5990BWhole", apart := false }
def LawS5990BWholeSaid : Prop := lawS5990BWholeRow.holds Yba.pinned (OpenSpec.ofChange lawS5990BWholeSpec)

/-- ITS FALSE NEIGHBOUR: 'it returns false'. Refute it at one input. -/
def lawS5990BWholeWrong : ChangeSpec := { name := "lawS5990BWhole", fn := fun _ => fun
  | [d1, d2, d3, d4] => { results := [.lit (.bool false)], args := [d1, d2, d3, d4] }
  | _ => none }
def LawS5990BWholeWrongFalsely : Prop := lawS5990BWholeRow.holds Yba.pinned (OpenSpec.ofChange lawS5990BWholeWrong)

end Rows
end Go.Proofs.Ybulkdtak
