/- Which values are allowed as scalars. -/
import Derived.Test.YtnndacgokehkpaaVal
namespace Go.Proofs.Ytnndacgokehkpaa
open Go.RowKit

/-- is a tree allowed as a scalar of the kind that the word names -/
def scalarOk (word : List UInt8) (t : T) : Bool :=
  t.isNull || (if word == [110, 117, 109, 101, 114, 105, 99] then t.isFloat || t.isInt else if word == [115, 116, 114, 105, 110, 103] then t.isString else if word == [98, 111, 111, 108, 101, 97, 110] then t.isBool
    else if word == [117, 110, 116, 121, 112, 101, 100] then t.isFloat || t.isInt || t.isString || t.isBool else false)

end Go.Proofs.Ytnndacgokehkpaa
