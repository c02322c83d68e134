/-
  NARROWER THAN 'FOR EVERY INPUT', by the rows' own cells (each row's printed sentence says how): LawS7197CWhole: laid.
  DERIVED. THE GIVEN ROWS OF THIS SEAT. 2 by the template 'for every input the law returns true; each argument reads behind the call as it read before'; 0 by the template 'total and deterministic' (their statements: YbulkesaiFmtTotals.lean).
  GIVEN WITH THE SEED: the statements are not yours to turn. If you find one false, say at which input.
  Laid BY PROGRAM, IN A SANDBOX (cutbox-rows.mjs): the forced cells as the released guide's own fill.sh prints them over the translation 59a385bcb727ab20… (all of the seat's roots in one cut). By AI agents, Wed Nov 11 2026. No macro, syntax, notation, axiom, sorry.
-/
import Derived.Test.YbulkesaiFmtChecked
import GoSem.PinnedTables
import GoSem.Claim
import GoSem.ClaimJoined
import GoSem.ClaimMapViews
import Derived.JoinedTies
import Derived.KernelRfl
namespace Go.Proofs.YbulkesaiFmt
/- THE CELL 'sum', in the pinned program and in every row, IS THE sha256 OF THE DUMP (.gsa) THAT YbulkesaiFmtProg.lean LOADS. Nothing in Lean hashes anything: it is a label: what it is worth is what the hold of that sum in a sandbox is worth. -/
noncomputable def Ybaf.pinned : Pinned := { name := "ybulkesaifmt", sum := "59a385bcb727ab200340a0dfbd1dfc4137747cfa19bd8dbf10cddfd152a64aa1", checked := Ybaf.checked }
namespace Rows
def none {H : Type} : Left H := { results := [], args := [] }

/- WHAT THE LISTED PACKAGE-LEVEL VARIABLES READ AS WHEN THE CALL BEGINS. Each datum BY PROGRAM (the guide's laid-datum.mjs) off the statement by which the dump's own 'gosem.cut.vars' lays the variable. In a bare row this is a premise. The card (YbulkesaiFmtCards.lean) ties it to the program's text. -/
def laid_unicode_utf8_acceptRanges {H : Type} : DataW H := .agg [.agg [.lit (.int .u8 128), .lit (.int .u8 191)], .agg [.lit (.int .u8 160), .lit (.int .u8 191)], .agg [.lit (.int .u8 128), .lit (.int .u8 159)], .agg [.lit (.int .u8 144), .lit (.int .u8 191)], .agg [.lit (.int .u8 128), .lit (.int .u8 143)], .agg [.lit (.int .u8 0), .lit (.int .u8 0)], .agg [.lit (.int .u8 0), .lit (.int .u8 0)], .agg [.lit (.int .u8 0), .lit (.int .u8 0)], .agg [.lit (.int .u8 0), .lit (.int .u8 0)], .agg [.lit (.int .u8 0), .lit (.int .u8 0)], .agg [.lit (.int .u8 0), .lit (.int .u8 0)], .agg [.lit (.int .u8 0), .lit (.int .u8 0)], .agg [.lit (.int .u8 0), .lit (.int .u8 0)], .agg [.lit (.int .u8 0), .lit (.int .u8 0)], .agg [.lit (.int .u8 0), .lit (.int .u8 0)], .agg [.lit (.int .u8 0), .lit (.int .u8 0)]]
def laid_encoding_hex_ErrLength {H : Type} : DataW H := .iface "*errors.errorString" (.ptr (.agg [.lit (.string [101, 110, 99, 111, 100, 105, 110, 103, 47, 104, 101, 120, 58, 32, 111, 100, 100, 32, 108, 101, 110, 103, 116, 104, 32, 104, 101, 120, 32, 115, 116, 114, 105, 110, 103])]))
/-- One of Go's own tables, pinned by name: the form's constant. -/
def laid_unicode_utf8_first : DataW Unit := Go.Pinned.utf8First

/-- 'aper.LawS7197BWhole': WHATEVER THE INPUT: true; the input reads as it did. -/
def lawS7197BWholeSpec : ChangeSpec := { name := "lawS7197BWhole", fn := fun _ => fun
  | [d1, d2, d3, d4, d5, d6] => { results := [.lit (.bool true)], args := [d1, d2, d3, d4, d5, d6] }
  | _ => none }
def lawS7197BWholeRow : OpenClaim := { program := "ybulkesaifmt", sum := "59a385bcb727ab200340a0dfbd1dfc4137747cfa19bd8dbf10cddfd152a64aa1", func := "example.com/iuris/iuris/internal/aper.LawS7197BWhole", spec := "lawS7197BWhole", stops := ["fmt.errorf", "fmt.Sprintf"], inPlace := ["fmt.Sprintf", "fmt.errorf"], named := ["encoding/binary.BigEndian"], apart := false }
/-- NO THEOREM (fmt's text is open here; it may be false): for the released tool's asking of the row's closed facts alone. THE STATEMENT IS 'LawS7197BWholeToldSaid' (YbulkesaiFmtCards.lean). -/
def LawS7197BWholeFormAsk : Prop := lawS7197BWholeRow.holds Ybaf.pinned (OpenSpec.ofChange lawS7197BWholeSpec)

/-- ITS FALSE NEIGHBOUR: 'it returns false'. Refute it at one input. -/
def lawS7197BWholeWrong : ChangeSpec := { name := "lawS7197BWhole", fn := fun _ => fun
  | [d1, d2, d3, d4, d5, d6] => { results := [.lit (.bool false)], args := [d1, d2, d3, d4, d5, d6] }
  | _ => none }
def LawS7197BWholeWrongFormAsk : Prop := lawS7197BWholeRow.holds Ybaf.pinned (OpenSpec.ofChange lawS7197BWholeWrong)

/-- 'lines.LawS7197CWhole': WHATEVER THE INPUT: true; the input reads as it did. -/
def lawS7197CWholeSpec : ChangeSpec := { name := "lawS7197CWhole", fn := fun _ => fun
  | [d1, d2] => { results := [.lit (.bool true)], args := [d1, d2] }
  | _ => none }
def lawS7197CWholeRow : OpenClaim := { program := "ybulkesaifmt", sum := "59a385bcb727ab200340a0dfbd1dfc4137747cfa19bd8dbf10cddfd152a64aa1", func := "example.com/iuris/iuris/internal/lines.LawS7197CWhole", spec := "lawS7197CWhole", stops := ["fmt.errorf", "fmt.Sprintf"], inPlace := ["internal/bytealg.IndexByteString", "internal/bytealg.IndexString", "fmt.errorf"], unfollowed := true, recurses := true, named := ["unicode/utf8.first", "unicode/utf8.acceptRanges", "encoding/hex.ErrLength", "internal/bytealg.MaxLen"], apart := false, laid := [("unicode/utf8.acceptRanges", laid_unicode_utf8_acceptRanges), ("encoding/hex.ErrLength", laid_encoding_hex_ErrLength), ("unicode/utf8.first", laid_unicode_utf8_first)] }
/-- NO THEOREM (fmt's text is open here; it may be false): for the released tool's asking of the row's closed facts alone. THE STATEMENT IS 'LawS7197CWholeToldSaid' (YbulkesaiFmtCards.lean). -/
def LawS7197CWholeFormAsk : Prop := lawS7197CWholeRow.holds Ybaf.pinned (OpenSpec.ofChange lawS7197CWholeSpec)

/-- ITS FALSE NEIGHBOUR: 'it returns false'. Refute it at one input. -/
def lawS7197CWholeWrong : ChangeSpec := { name := "lawS7197CWhole", fn := fun _ => fun
  | [d1, d2] => { results := [.lit (.bool false)], args := [d1, d2] }
  | _ => none }
def LawS7197CWholeWrongFormAsk : Prop := lawS7197CWholeRow.holds Ybaf.pinned (OpenSpec.ofChange lawS7197CWholeWrong)

end Rows
end Go.Proofs.YbulkesaiFmt
