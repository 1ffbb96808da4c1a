/- Walks: a connection ID's extension, read. -/
import Derived.Test.YtgnkfpfgolhokaaDoorStr2
import Derived.Test.YtgnkfpfgolhokaaDoorPskS
namespace Go.Proofs.YtgnkfpfgolhokaaDoor
open Go.RowKit Go.Cv
set_option maxRecDepth 100000
set_option linter.unusedVariables false
end Go.Proofs.YtgnkfpfgolhokaaDoor
