import Derived.Test.YtjjolokeceldmaaGreatRows0
import Derived.Test.YtjjolokeceldmaaGreatPures
import Derived.Deep.RegionHeld3
import Derived.Deep.RegionHeldLaw
import Derived.Deep.RegionLaw
namespace Go.Proofs.YtjjolokeceldmaaGreat
open Go.RowKit
end Go.Proofs.YtjjolokeceldmaaGreat
