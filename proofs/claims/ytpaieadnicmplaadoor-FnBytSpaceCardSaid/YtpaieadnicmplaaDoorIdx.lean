/- The contract of stringslite.Index. -/
import Derived.Test.YtpaieadnicmplaaDoorIdxL
namespace Go.Proofs.YtpaieadnicmplaaDoor
open Go.RowKit Go.Lib

end Go.Proofs.YtpaieadnicmplaaDoor
