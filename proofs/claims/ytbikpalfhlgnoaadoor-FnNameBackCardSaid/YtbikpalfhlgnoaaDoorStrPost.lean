/- A call that returns a text. -/
import Derived.Test.YtbikpalfhlgnoaaDoorBase
namespace Go.Proofs.YtbikpalfhlgnoaaDoor
open Go.RowKit

/-- It returns this text; what was there is as it was. -/
def StrPost (t : ByteArray) (w : World) (e : Ending) (w' : World) : Prop := e = .returned (.string t) ∧ Below w.heap.size w w'

end Go.Proofs.YtbikpalfhlgnoaaDoor
