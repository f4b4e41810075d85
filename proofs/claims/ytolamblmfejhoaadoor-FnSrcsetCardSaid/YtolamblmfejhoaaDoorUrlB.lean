/- The reference's Plain and Percent. -/
import Derived.Test.YtolamblmfejhoaaDoorUrlA
namespace Go.Proofs.YtolamblmfejhoaaDoor
open Go.RowKit
set_option linter.unusedVariables false
set_option linter.unusedSimpArgs false

end Go.Proofs.YtolamblmfejhoaaDoor
