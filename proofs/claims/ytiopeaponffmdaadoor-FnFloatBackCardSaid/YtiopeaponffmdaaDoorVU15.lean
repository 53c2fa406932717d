/- The texts of a proof, its declarations alone: part 15. -/
import Derived.KernelRfl
import Derived.Test.YtiopeaponffmdaaDoorVU8
set_option linter.unusedVariables false
set_option linter.unusedSimpArgs false
-- YtiopeaponffmdaaDoorMe4
namespace Go.Proofs.YtiopeaponffmdaaDoor.Fm
theorem e12 : allB 128 (fun i => certE (2 ^ 54) 11 ((i : Int) + (462))) = true := by kernel_rfl
theorem s12 : allB 128 (fun i => certS (2 ^ 55) 11 ((i : Int) + (462))) = true := by kernel_rfl
theorem e13 : allB 128 (fun i => certE (2 ^ 54) 11 ((i : Int) + (590))) = true := by kernel_rfl
theorem s13 : allB 128 (fun i => certS (2 ^ 55) 11 ((i : Int) + (590))) = true := by kernel_rfl
theorem e14 : allB 128 (fun i => certE (2 ^ 54) 11 ((i : Int) + (718))) = true := by kernel_rfl
theorem s14 : allB 128 (fun i => certS (2 ^ 55) 11 ((i : Int) + (718))) = true := by kernel_rfl
theorem e15 : allB 126 (fun i => certE (2 ^ 54) 11 ((i : Int) + (846))) = true := by kernel_rfl
theorem s15 : allB 126 (fun i => certS (2 ^ 55) 11 ((i : Int) + (846))) = true := by kernel_rfl
end Go.Proofs.YtiopeaponffmdaaDoor.Fm
