/- The walk of the law FnIsId: it returns true, and what was there is as it was. -/
import Derived.Test.YtobnglgnoflbnaaIsIdPart
import Derived.Test.YtobnglgnoflbnaaBareSel
namespace Go.Proofs.Ytobnglgnoflbnaa
open Go.RowKit
namespace lawFnIsId

theorem walk {W : World} (a : Option Addr) (len cap : Nat) (ts : List NodeD) (h : Nodes W a len ts ∧ len ≤ cap ∧ cap ≤ maxLen) (z : Int) {P : Prop} (_ : P) (id : ByteArray) (hid : id.size ≤ maxLen) :
    Calls Try.prog 3 #[.slice a len cap, .int .i64 z, .string id] W (YesB W) :=
  walk_of a len cap ts h.1 z id hid fun w => bareId_any id w hid

end lawFnIsId
end Go.Proofs.Ytobnglgnoflbnaa
