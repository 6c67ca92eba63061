import Derived.Test.YtgakapigpiaoiaaRows0
import Derived.Test.YtgakapigpiaoiaaSpecCmp
namespace Go.Proofs.Ytgakapigpiaoiaa
open Go.RowKit
end Go.Proofs.Ytgakapigpiaoiaa
