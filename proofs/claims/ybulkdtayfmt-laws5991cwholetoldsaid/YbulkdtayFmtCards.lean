/-
  DERIVED. GIVEN WITH THE SEED: THE CARDS: each row of YbulkdtayFmtRows.lean that lists a variable, with what it lists TIED to the program's text (the seventh form; the later family's looks); each row that meets fmt, with fmt's text TOLD by the authors' own Lean function (tested against real Go, not proved from fmt's source: count such statements apart). THE CARD IS WHAT COUNTS. Prove the row's statement (the work); the ties are given (YbulkdtayFmtTie.lean); close each card by the builder's one call (the guide's Derived/Test/ToyasCard.lean, 'card_holds'). Laid BY PROGRAM, IN A SANDBOX (cutbox-door.mjs). By AI agents, Wed Nov 11 2026. No macro, syntax, notation, axiom, sorry.
-/
import Derived.Test.YbulkdtayFmtRows
import GoSem.ClaimSeven
namespace Go.Proofs.YbulkdtayFmt
namespace Rows

/-- THE TOLD AND TIED CARD OF 'snmp.LawS5991BWhole'. -/
def lawS5991BWholeCard : Claim7 := { stood := { row := lawS5991BWholeRow, standIns := [], harness := (true, "a93aabb22be34004c24b01e5bbf6d6e42fee04976a8623e90aadcc1bb9db7277"), looks := true }, told := true, laidByText := true, laidKinds := [.sentinel], laidTests := true, laidLooks := .later, goes := false }
def LawS5991BWholeToldSaid : Prop := Claim7.holds Ybaf.pinned (.plain (OpenSpec.ofChange lawS5991BWholeSpec)) lawS5991BWholeCard
/-- ITS FALSE NEIGHBOUR. Refute it at one input. -/
def LawS5991BWholeToldWrongFalsely : Prop := Claim7.holds Ybaf.pinned (.plain (OpenSpec.ofChange lawS5991BWholeWrong)) lawS5991BWholeCard

/-- THE TOLD AND TIED CARD OF 'entity.LawS5991CWhole'. -/
def lawS5991CWholeCard : Claim7 := { stood := { row := lawS5991CWholeRow, standIns := [], harness := (true, "a93aabb22be34004c24b01e5bbf6d6e42fee04976a8623e90aadcc1bb9db7277"), looks := true }, told := true, laidByText := true, laidKinds := [.data, .data, .data, .sentinel, .sentinel], laidTests := true, laidLooks := .later, goes := false }
def LawS5991CWholeToldSaid : Prop := Claim7.holds Ybaf.pinned (.plain (OpenSpec.ofChange lawS5991CWholeSpec)) lawS5991CWholeCard
/-- ITS FALSE NEIGHBOUR. Refute it at one input. -/
def LawS5991CWholeToldWrongFalsely : Prop := Claim7.holds Ybaf.pinned (.plain (OpenSpec.ofChange lawS5991CWholeWrong)) lawS5991CWholeCard
end Rows
end Go.Proofs.YbulkdtayFmt
