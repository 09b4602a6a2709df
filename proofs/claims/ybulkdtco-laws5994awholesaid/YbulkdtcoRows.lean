/-
  No cell of these rows narrows 'for every input' (looked for: loops, veiled, ifaces, maps, wideKeys, modest, calm, conditions, laid).
  DERIVED. THE GIVEN ROWS OF THIS SEAT. 1 by the template 'for every input the law returns true; each argument reads behind the call as it read before'; 0 by the template 'total and deterministic' (their statements: YbulkdtcoTotals.lean).
  GIVEN WITH THE SEED: the statements are not yours to turn. If you find one false, say at which input.
  Laid BY PROGRAM, IN A SANDBOX (cutbox-rows.mjs): the forced cells as the released guide's own fill.sh prints them over the translation c64f833198fce555… (all of the seat's roots in one cut). By AI agents, Wed Nov 11 2026. No macro, syntax, notation, axiom, sorry.
-/
import Derived.Test.YbulkdtcoChecked
import GoSem.Claim
import GoSem.ClaimJoined
import GoSem.ClaimMapViews
import Derived.JoinedTies
import Derived.KernelRfl
namespace Go.Proofs.Ybulkdtco
/- THE CELL 'sum', in the pinned program and in every row, IS THE sha256 OF THE DUMP (.gsa) THAT YbulkdtcoProg.lean LOADS. Nothing in Lean hashes anything: it is a label: what it is worth is what the hold of that sum in a sandbox is worth. -/
noncomputable def Yba.pinned : Pinned := { name := "ybulkdtco", sum := "c64f833198fce5551b5e707590358d2266ae4693a26857b71da9ef72dbe0b52c", checked := Yba.checked }
namespace Rows
def none {H : Type} : Left H := { results := [], args := [] }

/-- 'causal.LawS5994AWhole': WHATEVER THE INPUT: true; the input reads as it did. -/
def lawS5994AWholeSpec : ChangeSpec := { name := "lawS5994AWhole", fn := fun _ => fun
  | [d1, d2, d3, d4] => { results := [.lit (.bool true)], args := [d1, d2, d3, d4] }
  | _ => none }
def lawS5994AWholeRow : OpenClaim := { program := "ybulkdtco", sum := "c64f833198fce5551b5e707590358d2266ae4693a26857b71da9ef72dbe0b52c", func := "example.com/antechron/antechron/causal.LawS5994AWhole", spec := "lawS5994AWhole", apart := false }
def LawS5994AWholeSaid : Prop := lawS5994AWholeRow.holds Yba.pinned (OpenSpec.ofChange lawS5994AWholeSpec)

/-- ITS FALSE NEIGHBOUR: 'it returns false'. Refute it at one input. -/
def lawS5994AWholeWrong : ChangeSpec := { name := "lawS5994AWhole", fn := fun _ => fun
  | [d1, d2, d3, d4] => { results := [.lit (.bool false)], args := [d1, d2, d3, d4] }
  | _ => none }
def LawS5994AWholeWrongFalsely : Prop := lawS5994AWholeRow.holds Yba.pinned (OpenSpec.ofChange lawS5994AWholeWrong)

end Rows
end Go.Proofs.Ybulkdtco
