import Derived.Test.YtgakapigpiaoiaaBtIter
namespace Go.Proofs.Ytgakapigpiaoiaa.Bt
open Go.RowKit Go.Proofs.Ytgakapigpiaoiaa
end Go.Proofs.Ytgakapigpiaoiaa.Bt
