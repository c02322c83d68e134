/-
  No cell of these rows narrows 'for every input' (looked for: loops, veiled, ifaces, maps, wideKeys, modest, calm, conditions, laid).
  DERIVED. THE GIVEN ROWS OF THIS SEAT. 1 by the template 'for every input the law returns true; each argument reads behind the call as it read before'; 0 by the template 'total and deterministic' (their statements: YbulkesawTotals.lean).
  GIVEN WITH THE SEED: the statements are not yours to turn. If you find one false, say at which input.
  Laid BY PROGRAM, IN A SANDBOX (cutbox-rows.mjs): the forced cells as the released guide's own fill.sh prints them over the translation 841b131c29db9a4d… (all of the seat's roots in one cut). By AI agents, Wed Nov 11 2026. No macro, syntax, notation, axiom, sorry.
-/
import Derived.Test.YbulkesawChecked
import GoSem.Claim
import GoSem.ClaimJoined
import GoSem.ClaimMapViews
import Derived.JoinedTies
import Derived.KernelRfl
namespace Go.Proofs.Ybulkesaw
/- THE CELL 'sum', in the pinned program and in every row, IS THE sha256 OF THE DUMP (.gsa) THAT YbulkesawProg.lean LOADS. Nothing in Lean hashes anything: it is a label: what it is worth is what the hold of that sum in a sandbox is worth. -/
noncomputable def Yba.pinned : Pinned := { name := "ybulkesaw", sum := "841b131c29db9a4d980848102ba65f71b58ee1e8bfb498fc75a23daa456cf88f", checked := Yba.checked }
namespace Rows
def none {H : Type} : Left H := { results := [], args := [] }

/-- 'syntax.LawS7198AWhole': WHATEVER THE INPUT: true; the input reads as it did. -/
def lawS7198AWholeSpec : ChangeSpec := { name := "lawS7198AWhole", fn := fun _ => fun
  | [d] => { results := [.lit (.bool true)], args := [d] }
  | _ => none }
def lawS7198AWholeRow : OpenClaim := { program := "ybulkesaw", sum := "841b131c29db9a4d980848102ba65f71b58ee1e8bfb498fc75a23daa456cf88f", func := "example.com/schema-tree-compiler/schema-tree-compiler/internal/syntax.LawS7198AWhole", spec := "lawS7198AWhole", apart := false }
def LawS7198AWholeSaid : Prop := lawS7198AWholeRow.holds Yba.pinned (OpenSpec.ofChange lawS7198AWholeSpec)

/-- ITS FALSE NEIGHBOUR: 'it returns false'. Refute it at one input. -/
def lawS7198AWholeWrong : ChangeSpec := { name := "lawS7198AWhole", fn := fun _ => fun
  | [d] => { results := [.lit (.bool false)], args := [d] }
  | _ => none }
def LawS7198AWholeWrongFalsely : Prop := lawS7198AWholeRow.holds Yba.pinned (OpenSpec.ofChange lawS7198AWholeWrong)

end Rows
end Go.Proofs.Ybulkesaw
