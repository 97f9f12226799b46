/- What fastjson takes the inside of a string for, on lists of bytes. -/
import Derived.Test.YtbpiooeklkjilaaDoorZUnPure
set_option linter.unusedVariables false
namespace Go.Proofs.YtbpiooeklkjilaaDoor.J

end Go.Proofs.YtbpiooeklkjilaaDoor.J
