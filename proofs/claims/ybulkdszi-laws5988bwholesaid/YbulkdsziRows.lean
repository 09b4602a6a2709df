/-
  No cell of these rows narrows 'for every input' (looked for: loops, veiled, ifaces, maps, wideKeys, modest, calm, conditions, laid).
  DERIVED. THE GIVEN ROWS OF THIS SEAT. 2 by the template 'for every input the law returns true; each argument reads behind the call as it read before'; 0 by the template 'total and deterministic' (their statements: YbulkdsziTotals.lean).
  GIVEN WITH THE SEED: the statements are not yours to turn. If you find one false, say at which input.
  Laid BY PROGRAM, IN A SANDBOX (cutbox-rows.mjs): the forced cells as the released guide's own fill.sh prints them over the translation 61093cb7aba89ba3… (all of the seat's roots in one cut). By AI agents, Wed Nov 11 2026. No macro, syntax, notation, axiom, sorry.
-/
import Derived.Test.YbulkdsziChecked
import GoSem.Claim
import GoSem.ClaimJoined
import GoSem.ClaimMapViews
import Derived.JoinedTies
import Derived.KernelRfl
namespace Go.Proofs.Ybulkdszi
/- THE CELL 'sum', in the pinned program and in every row, IS THE sha256 OF THE DUMP (.gsa) THAT YbulkdsziProg.lean LOADS. Nothing in Lean hashes anything: it is a label: what it is worth is what the hold of that sum in a sandbox is worth. -/
noncomputable def Yba.pinned : Pinned := { name := "ybulkdszi", sum := "61093cb7aba89ba3e7868a14c5e24376b41d17d1ca6de6c82175ccf249e9e978", checked := Yba.checked }
namespace Rows
def none {H : Type} : Left H := { results := [], args := [] }

/-- 'tallyvane.LawS5988AWhole': WHATEVER THE INPUT: true; the input reads as it did. -/
def lawS5988AWholeSpec : ChangeSpec := { name := "lawS5988AWhole", fn := fun _ => fun
  | [d] => { results := [.lit (.bool true)], args := [d] }
  | _ => none }
def lawS5988AWholeRow : OpenClaim := { program := "ybulkdszi", sum := "61093cb7aba89ba3e7868a14c5e24376b41d17d1ca6de6c82175ccf249e9e978", func := "example.com/tallyvane/tallyvane.LawS5988AWhole", spec := "lawS5988AWhole", inPlace := ["internal/abi.NoEscape", "internal/bytealg.MakeNoZero"], apart := false }
def LawS5988AWholeSaid : Prop := lawS5988AWholeRow.holds Yba.pinned (OpenSpec.ofChange lawS5988AWholeSpec)

/-- ITS FALSE NEIGHBOUR: 'it returns false'. Refute it at one input. -/
def lawS5988AWholeWrong : ChangeSpec := { name := "lawS5988AWhole", fn := fun _ => fun
  | [d] => { results := [.lit (.bool false)], args := [d] }
  | _ => none }
def LawS5988AWholeWrongFalsely : Prop := lawS5988AWholeRow.holds Yba.pinned (OpenSpec.ofChange lawS5988AWholeWrong)

/-- 'tallyvane.LawS5988BWhole': WHATEVER THE INPUT: true; the input reads as it did. -/
def lawS5988BWholeSpec : ChangeSpec := { name := "lawS5988BWhole", fn := fun _ => fun
  | [d1, d2, d3] => { results := [.lit (.bool true)], args := [d1, d2, d3] }
  | _ => none }
def lawS5988BWholeRow : OpenClaim := { program := "ybulkdszi", sum := "61093cb7aba89ba3e7868a14c5e24376b41d17d1ca6de6c82175ccf249e9e978", func := "example.com/tallyvane/tallyvane.LawS5988BWhole", spec := "lawS5988BWhole", inPlace := ["(*internal/sync.Mutex).Lock", "internal/race.Disable", "sync/atomic.CompareAndSwapInt32", "internal/race.Enable", "internal/race.Acquire", "(*internal/sync.Mutex).lockSlow", "internal/sync.runtime_canSpin", "internal/sync.runtime_doSpin", "internal/sync.throw", "internal/sync.runtime_nanotime", "internal/sync.runtime_SemacquireMutex", "sync/atomic.AddInt32", "(*internal/sync.Mutex).Unlock", "internal/race.ReleaseMerge", "(*internal/sync.Mutex).unlockSlow", "internal/sync.fatal", "internal/sync.runtime_Semrelease"], unfollowed := true, recurses := true, apart := false }
def LawS5988BWholeSaid : Prop := lawS5988BWholeRow.holds Yba.pinned (OpenSpec.ofChange lawS5988BWholeSpec)

/-- ITS FALSE NEIGHBOUR: 'it returns false'. Refute it at one input. -/
def lawS5988BWholeWrong : ChangeSpec := { name := "lawS5988BWhole", fn := fun _ => fun
  | [d1, d2, d3] => { results := [.lit (.bool false)], args := [d1, d2, d3] }
  | _ => none }
def LawS5988BWholeWrongFalsely : Prop := lawS5988BWholeRow.holds Yba.pinned (OpenSpec.ofChange lawS5988BWholeWrong)

end Rows
end Go.Proofs.Ybulkdszi
