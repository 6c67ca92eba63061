import Derived.Test.YtbdcepkahdecjaaGreatRows0
import Derived.Test.YtbdcepkahdecjaaGreatPures
import Derived.Deep.RegionHeld3
import Derived.Deep.RegionHeldLaw
import Derived.Deep.RegionLaw
namespace Go.Proofs.YtbdcepkahdecjaaGreat
open Go.RowKit
end Go.Proofs.YtbdcepkahdecjaaGreat
