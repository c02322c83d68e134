/-
  No cell of these rows narrows 'for every input' (looked for: loops, veiled, ifaces, maps, wideKeys, modest, calm, conditions, laid).
  DERIVED. THE GIVEN ROWS OF THIS SEAT. 2 by the template 'for every input the law returns true; each argument reads behind the call as it read before'; 0 by the template 'total and deterministic' (their statements: YbulkeovyTotals.lean).
  GIVEN WITH THE SEED: the statements are not yours to turn. If you find one false, say at which input.
  Laid BY PROGRAM, IN A SANDBOX (cutbox-rows.mjs): the forced cells as the released guide's own fill.sh prints them over the translation 2f92701489f83ee0… (all of the seat's roots in one cut). By AI agents, Wed Nov 11 2026. No macro, syntax, notation, axiom, sorry.
-/
import Derived.Test.YbulkeovyChecked
import GoSem.Claim
import GoSem.ClaimJoined
import GoSem.ClaimMapViews
import Derived.JoinedTies
import Derived.KernelRfl
namespace Go.Proofs.Ybulkeovy
/- THE CELL 'sum', in the pinned program and in every row, IS THE sha256 OF THE DUMP (.gsa) THAT YbulkeovyProg.lean LOADS. Nothing in Lean hashes anything: it is a label: what it is worth is what the hold of that sum in a sandbox is worth. -/
noncomputable def Yba.pinned : Pinned := { name := "ybulkeovy", sum := "2f92701489f83ee082bb7f9e35548db855ab1b8a94b13f8da421485e5af9c012", checked := Yba.checked }
namespace Rows
def none {H : Type} : Left H := { results := [], args := [] }

/-- 'agreement.LawS7044BPart': WHATEVER THE INPUT: true; the input reads as it did. -/
def lawS7044BPartSpec : ChangeSpec := { name := "lawS7044BPart", fn := fun _ => fun
  | [d1, d2, d3] => { results := [.lit (.bool true)], args := [d1, d2, d3] }
  | _ => none }
def lawS7044BPartRow : OpenClaim := { program := "ybulkeovy", sum := "2f92701489f83ee082bb7f9e35548db855ab1b8a94b13f8da421485e5af9c012", func := "example.com/hullbound/hullbound/internal/agreement.LawS7044BPart", spec := "lawS7044BPart", inPlace := ["math.Float64bits"], plainKeys := false, apart := false }
def LawS7044BPartSaid : Prop := lawS7044BPartRow.holds Yba.pinned (OpenSpec.ofChange lawS7044BPartSpec)

/-- ITS FALSE NEIGHBOUR: 'it returns false'. Refute it at one input. -/
def lawS7044BPartWrong : ChangeSpec := { name := "lawS7044BPart", fn := fun _ => fun
  | [d1, d2, d3] => { results := [.lit (.bool false)], args := [d1, d2, d3] }
  | _ => none }
def LawS7044BPartWrongFalsely : Prop := lawS7044BPartRow.holds Yba.pinned (OpenSpec.ofChange lawS7044BPartWrong)

/-- 'node.LawS7044CWhole': WHATEVER THE INPUT: true; the input reads as it did. -/
def lawS7044CWholeSpec : ChangeSpec := { name := "lawS7044CWhole", fn := fun _ => fun
  | [d1, d2, d3, d4] => { results := [.lit (.bool true)], args := [d1, d2, d3, d4] }
  | _ => none }
def lawS7044CWholeRow : OpenClaim := { program := "ybulkeovy", sum := "2f92701489f83ee082bb7f9e35548db855ab1b8a94b13f8da421485e5af9c012", func := "example.com/hullbound/hullbound/internal/node.LawS7044CWhole", spec := "lawS7044CWhole", plainKeys := false, apart := false }
def LawS7044CWholeSaid : Prop := lawS7044CWholeRow.holds Yba.pinned (OpenSpec.ofChange lawS7044CWholeSpec)

/-- ITS FALSE NEIGHBOUR: 'it returns false'. Refute it at one input. -/
def lawS7044CWholeWrong : ChangeSpec := { name := "lawS7044CWhole", fn := fun _ => fun
  | [d1, d2, d3, d4] => { results := [.lit (.bool false)], args := [d1, d2, d3, d4] }
  | _ => none }
def LawS7044CWholeWrongFalsely : Prop := lawS7044CWholeRow.holds Yba.pinned (OpenSpec.ofChange lawS7044CWholeWrong)

end Rows
end Go.Proofs.Ybulkeovy
