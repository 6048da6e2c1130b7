/- impl.shadesOf: of no palette, and of the palette that the decoder holds. -/
import Derived.Test.YtnodmobblamlgaaDoorECfgPlain
import Derived.Test.YtnodmobblamlgaaDoorEShade
import Derived.Test.YtnodmobblamlgaaDoorEDecI
namespace Go.Proofs.YtnodmobblamlgaaDoor
open Go.RowKit Go.Proofs.YtnodmobblamlgaaDoor.PFnConfig Go.Proofs.YtnodmobblamlgaaDoorW.PrintWords Go.Proofs.YtnodmobblamlgaaDoorW.PrintLast Go.Proofs.YtnodmobblamlgaaDoorW.PrintMore
set_option linter.unusedVariables false
set_option linter.unusedSimpArgs false

end Go.Proofs.YtnodmobblamlgaaDoor
