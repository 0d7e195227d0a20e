/- Tables of states that are read, as plain data; the reference's reader of counts. -/
import Derived.Test.YtgdhdkjbilifiaaDoorSdR
import Derived.Test.YtgdhdkjbilifiaaDoorSdB
import Derived.Test.YtgdhdkjbilifiaaDoorOwn
namespace Go.Proofs.YtgdhdkjbilifiaaDoor
open Go Go.Sx
set_option maxRecDepth 100000
end Go.Proofs.YtgdhdkjbilifiaaDoor
