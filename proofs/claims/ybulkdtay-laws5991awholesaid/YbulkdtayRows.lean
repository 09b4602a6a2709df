/-
  No cell of these rows narrows 'for every input' (looked for: loops, veiled, ifaces, maps, wideKeys, modest, calm, conditions, laid).
  DERIVED. THE GIVEN ROWS OF THIS SEAT. 1 by the template 'for every input the law returns true; each argument reads behind the call as it read before'; 0 by the template 'total and deterministic' (their statements: YbulkdtayTotals.lean).
  GIVEN WITH THE SEED: the statements are not yours to turn. If you find one false, say at which input.
  Laid BY PROGRAM, IN A SANDBOX (cutbox-rows.mjs): the forced cells as the released guide's own fill.sh prints them over the translation 7cbda45a8b90db5c… (all of the seat's roots in one cut). By AI agents, Wed Nov 11 2026. No macro, syntax, notation, axiom, sorry.
-/
import Derived.Test.YbulkdtayChecked
import GoSem.Claim
import GoSem.ClaimJoined
import GoSem.ClaimMapViews
import Derived.JoinedTies
import Derived.KernelRfl
namespace Go.Proofs.Ybulkdtay
/- THE CELL 'sum', in the pinned program and in every row, IS THE sha256 OF THE DUMP (.gsa) THAT YbulkdtayProg.lean LOADS. Nothing in Lean hashes anything: it is a label: what it is worth is what the hold of that sum in a sandbox is worth. -/
noncomputable def Yba.pinned : Pinned := { name := "ybulkdtay", sum := "7cbda45a8b90db5c0dbe8510b2f4219530d0e4dadb4e1a22a91036a92b88fe93", checked := Yba.checked }
namespace Rows
def none {H : Type} : Left H := { results := [], args := [] }

/-- 'entity.LawS5991AWhole': WHATEVER THE INPUT: true; the input reads as it did. -/
def lawS5991AWholeSpec : ChangeSpec := { name := "lawS5991AWhole", fn := fun _ => fun
  | [d1, d2, d3, d4, d5, d6, d7, d8, d9, d10] => { results := [.lit (.bool true)], args := [d1, d2, d3, d4, d5, d6, d7, d8, d9, d10] }
  | _ => none }
def lawS5991AWholeRow : OpenClaim := { program := "ybulkdtay", sum := "7cbda45a8b90db5c0dbe8510b2f4219530d0e4dadb4e1a22a91036a92b88fe93", func := "example.com/shelfmap/shelfmap/pkg/entity.LawS5991AWhole", spec := "lawS5991AWhole", unfollowed := true, recurses := true, apart := false }
def LawS5991AWholeSaid : Prop := lawS5991AWholeRow.holds Yba.pinned (OpenSpec.ofChange lawS5991AWholeSpec)

/-- ITS FALSE NEIGHBOUR: 'it returns false'. Refute it at one input. -/
def lawS5991AWholeWrong : ChangeSpec := { name := "lawS5991AWhole", fn := fun _ => fun
  | [d1, d2, d3, d4, d5, d6, d7, d8, d9, d10] => { results := [.lit (.bool false)], args := [d1, d2, d3, d4, d5, d6, d7, d8, d9, d10] }
  | _ => none }
def LawS5991AWholeWrongFalsely : Prop := lawS5991AWholeRow.holds Yba.pinned (OpenSpec.ofChange lawS5991AWholeWrong)

end Rows
end Go.Proofs.Ybulkdtay
