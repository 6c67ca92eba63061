import Derived.Test.YtbdcepkahdecjaaGreatBtIter
namespace Go.Proofs.YtbdcepkahdecjaaGreat.Bt
open Go.RowKit Go.Proofs.YtbdcepkahdecjaaGreat
end Go.Proofs.YtbdcepkahdecjaaGreat.Bt
