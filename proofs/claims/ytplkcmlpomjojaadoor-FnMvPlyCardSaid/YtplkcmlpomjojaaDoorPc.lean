/- What stands on a square of a position. -/
import Derived.Test.YtplkcmlpomjojaaDoorPi
namespace Go.Proofs.YtplkcmlpomjojaaDoor
open Go Go.RowKit
/-- What stands on a square. -/
def pcAt (p : List Int) (s : Int) : Int := p.getD s.toNat 0
end Go.Proofs.YtplkcmlpomjojaaDoor
