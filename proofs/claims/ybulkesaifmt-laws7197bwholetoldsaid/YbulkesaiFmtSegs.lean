/- THE LAW's BODY, PARTED AT A REGION: the region and what follows it, taken out of the translation by a function. -/
import Derived.Test.YbulkesaiFmtParts
namespace Go.Proofs.YbulkesaiFmt
open Go.ChangeShapes Go.WideShapes Go.ChangeAt Go.RowKit
/-- A statement's region and the rest behind it, along the body's spine. -/
def partAt (n : Nat) : Code → Option (Code × Code)
  | .seq (.region k ops d) b => if k == n then some (.region k ops d, b) else partAt n b
  | .seq _ b => partAt n b
  | _ => none
end Go.Proofs.YbulkesaiFmt
