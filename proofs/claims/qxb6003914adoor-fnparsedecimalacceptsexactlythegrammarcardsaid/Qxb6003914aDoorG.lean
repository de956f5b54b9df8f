/-
  The law (5) for every text.
-/
import Derived.Test.Qxb6003914aDoorE
import Derived.Test.Qxb6003914aDoorF
namespace Go.Proofs.Qxb6003914aDoor
open Go.RowKit
theorem law_any (s : ByteArray) (w : World) (hs : s.size ≤ maxLen) : Calls Tryd.prog 5 #[.string s] w fun e w' => e = .returned (.bool true) ∧ Below w.heap.size w w' := law5 parse_any s w hs
end Go.Proofs.Qxb6003914aDoor
