import Derived.Test.YtjoagdldbmlenaaGreatDoorVG1
import Derived.Test.YtjoagdldbmlenaaGreatDoorVG2
set_option maxRecDepth 100000
set_option maxHeartbeats 8000000
set_option linter.unusedVariables false
set_option linter.unusedSimpArgs false
namespace Go.Proofs.YtjoagdldbmlenaaGreatDoor.LawC
theorem card_holds : Rows.FnReadDirectivesCardSaid := card_of LawD.law
#print axioms card_holds
end Go.Proofs.YtjoagdldbmlenaaGreatDoor.LawC
