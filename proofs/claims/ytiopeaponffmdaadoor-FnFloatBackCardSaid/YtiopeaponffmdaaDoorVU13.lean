/- The texts of a proof, its declarations alone: part 13. -/
import Derived.KernelRfl
import Derived.Test.YtiopeaponffmdaaDoorVU8
set_option linter.unusedVariables false
set_option linter.unusedSimpArgs false
-- YtiopeaponffmdaaDoorMe2
namespace Go.Proofs.YtiopeaponffmdaaDoor.Fm
theorem e4 : allB 128 (fun i => certE (2 ^ 54) 11 ((i : Int) + (-562))) = true := by kernel_rfl
theorem s4 : allB 128 (fun i => certS (2 ^ 55) 11 ((i : Int) + (-562))) = true := by kernel_rfl
theorem e5 : allB 128 (fun i => certE (2 ^ 54) 11 ((i : Int) + (-434))) = true := by kernel_rfl
theorem s5 : allB 128 (fun i => certS (2 ^ 55) 11 ((i : Int) + (-434))) = true := by kernel_rfl
theorem e6 : allB 128 (fun i => certE (2 ^ 54) 11 ((i : Int) + (-306))) = true := by kernel_rfl
theorem s6 : allB 128 (fun i => certS (2 ^ 55) 11 ((i : Int) + (-306))) = true := by kernel_rfl
theorem e7 : allB 128 (fun i => certE (2 ^ 54) 11 ((i : Int) + (-178))) = true := by kernel_rfl
theorem s7 : allB 128 (fun i => certS (2 ^ 55) 11 ((i : Int) + (-178))) = true := by kernel_rfl
end Go.Proofs.YtiopeaponffmdaaDoor.Fm
