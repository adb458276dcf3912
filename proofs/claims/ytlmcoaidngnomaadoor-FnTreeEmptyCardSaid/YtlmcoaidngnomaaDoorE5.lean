/- The reference's SHA-256 of nothing, reckoned. No condition. -/
import Derived.Test.YtlmcoaidngnomaaDoorE4
namespace Go.Proofs.YtlmcoaidngnomaaDoor
set_option linter.unusedVariables false

def eHash : List Int := [227, 176, 196, 66, 152, 252, 28, 20, 154, 251, 244, 200, 153, 111, 185, 36, 39, 174, 65, 228, 100, 155, 147, 76, 164, 149, 153, 27, 120, 82, 184, 85]
set_option maxRecDepth 1000000 in
theorem eSum_nil : eOut (eBlk (ePad 63) eIni) = eHash := by decide +kernel

end Go.Proofs.YtlmcoaidngnomaaDoor
