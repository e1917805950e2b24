/- Contracts of hashStr and IndexRabinKarp at strings (walks after the shelf's own). -/
import Derived.Test.YtpaieadnicmplaaDoorBas
namespace Go.Proofs.YtpaieadnicmplaaDoor
open Go.RowKit Go.Lib

end Go.Proofs.YtpaieadnicmplaaDoor
