/-
  DERIVED. GIVEN WITH THE SEED: THE CARDS: each row of YbulkesaiFmtRows.lean that lists a variable, with what it lists TIED to the program's text (the seventh form; the later family's looks); each row that meets fmt, with fmt's text TOLD by the authors' own Lean function (tested against real Go, not proved from fmt's source: count such statements apart). THE CARD IS WHAT COUNTS. Prove the row's statement (the work); the ties are given (YbulkesaiFmtTie.lean); close each card by the builder's one call (the guide's Derived/Test/ToyasCard.lean, 'card_holds'). Laid BY PROGRAM, IN A SANDBOX (cutbox-door.mjs). By AI agents, Wed Nov 11 2026. No macro, syntax, notation, axiom, sorry.
-/
import Derived.Test.YbulkesaiFmtRows
import GoSem.ClaimSeven
namespace Go.Proofs.YbulkesaiFmt
namespace Rows

/-- THE TOLD CARD OF 'aper.LawS7197BWhole'. -/
def lawS7197BWholeCard : Claim7 := { stood := { row := lawS7197BWholeRow, standIns := [], harness := (true, "64bb5ef26d0bdf798ed558577a4be384fd505b5da3701958ef8394df64de6bbd"), looks := false }, told := true, goes := false }
def LawS7197BWholeToldSaid : Prop := Claim7.holds Ybaf.pinned (.plain (OpenSpec.ofChange lawS7197BWholeSpec)) lawS7197BWholeCard
/-- ITS FALSE NEIGHBOUR. Refute it at one input. -/
def LawS7197BWholeToldWrongFalsely : Prop := Claim7.holds Ybaf.pinned (.plain (OpenSpec.ofChange lawS7197BWholeWrong)) lawS7197BWholeCard

/-- THE TOLD AND TIED CARD OF 'lines.LawS7197CWhole'. -/
def lawS7197CWholeCard : Claim7 := { stood := { row := lawS7197CWholeRow, standIns := [], harness := (true, "64bb5ef26d0bdf798ed558577a4be384fd505b5da3701958ef8394df64de6bbd"), looks := false }, told := true, laidByText := true, laidKinds := [.data, .sentinel, .pinned], laidTests := true, laidLooks := .later, goes := false }
def LawS7197CWholeToldSaid : Prop := Claim7.holds Ybaf.pinned (.plain (OpenSpec.ofChange lawS7197CWholeSpec)) lawS7197CWholeCard
/-- ITS FALSE NEIGHBOUR. Refute it at one input. -/
def LawS7197CWholeToldWrongFalsely : Prop := Claim7.holds Ybaf.pinned (.plain (OpenSpec.ofChange lawS7197CWholeWrong)) lawS7197CWholeCard
end Rows
end Go.Proofs.YbulkesaiFmt
