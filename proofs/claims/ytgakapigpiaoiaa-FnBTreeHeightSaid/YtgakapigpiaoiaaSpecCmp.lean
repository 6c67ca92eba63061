import Derived.Test.YtgakapigpiaoiaaRows0
import Derived.Test.YtgakapigpiaoiaaPures
import Derived.Deep.RegionHeld3
import Derived.Deep.RegionHeldLaw
import Derived.Deep.RegionLaw
namespace Go.Proofs.Ytgakapigpiaoiaa
open Go.RowKit
end Go.Proofs.Ytgakapigpiaoiaa
