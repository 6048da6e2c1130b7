/- tiff.DecodeConfig and impl.Config over a file that spec.Write makes. -/
import Derived.Test.YtnodmobblamlgaaDoorEFiled
import Derived.Test.YtnodmobblamlgaaDoorEShades
namespace Go.Proofs.YtnodmobblamlgaaDoor
open Go.RowKit Go.Proofs.YtnodmobblamlgaaDoor.PFnConfig Go.Proofs.YtnodmobblamlgaaDoorW.PrintWords Go.Proofs.YtnodmobblamlgaaDoorW.PrintLast Go.Proofs.YtnodmobblamlgaaDoorW.PrintMore
set_option linter.unusedVariables false
set_option linter.unusedSimpArgs false

end Go.Proofs.YtnodmobblamlgaaDoor
