/- The texts of a proof, its declarations alone: part 20. -/
import Derived.KernelRfl
import Derived.Test.YtiopeaponffmdaaDoorVS15
set_option linter.unusedVariables false
set_option linter.unusedSimpArgs false
-- YtiopeaponffmdaaDoorMe4
namespace Go.Proofs.YtiopeaponffmdaaDoor.Fm
theorem e32 : allB 254 (fun i => certE (2 ^ 25) 40 ((i : Int) + (-149))) = true := by kernel_rfl
theorem s32 : allB 254 (fun i => certS (2 ^ 26) 40 ((i : Int) + (-149))) = true := by kernel_rfl
end Go.Proofs.YtiopeaponffmdaaDoor.Fm
