/- The palette's colours as impl.Config tells them: color.RGBA64.RGBA. -/
import Derived.Test.YtnodmobblamlgaaDoorEReads
import Derived.Deep.Heap
namespace Go.Proofs.YtnodmobblamlgaaDoor
open Go.RowKit Go.Proofs.YtnodmobblamlgaaDoorW.PrintWords Go.Proofs.YtnodmobblamlgaaDoorW.PrintLast Go.Proofs.YtnodmobblamlgaaDoorW.PrintMore
set_option linter.unusedVariables false
set_option linter.unusedSimpArgs false

end Go.Proofs.YtnodmobblamlgaaDoor
