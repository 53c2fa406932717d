/- The texts of a proof, its declarations alone: part 14. -/
import Derived.KernelRfl
import Derived.Test.YtiopeaponffmdaaDoorVU8
set_option linter.unusedVariables false
set_option linter.unusedSimpArgs false
-- YtiopeaponffmdaaDoorMe3
namespace Go.Proofs.YtiopeaponffmdaaDoor.Fm
theorem e8 : allB 128 (fun i => certE (2 ^ 54) 11 ((i : Int) + (-50))) = true := by kernel_rfl
theorem s8 : allB 128 (fun i => certS (2 ^ 55) 11 ((i : Int) + (-50))) = true := by kernel_rfl
theorem e9 : allB 128 (fun i => certE (2 ^ 54) 11 ((i : Int) + (78))) = true := by kernel_rfl
theorem s9 : allB 128 (fun i => certS (2 ^ 55) 11 ((i : Int) + (78))) = true := by kernel_rfl
theorem e10 : allB 128 (fun i => certE (2 ^ 54) 11 ((i : Int) + (206))) = true := by kernel_rfl
theorem s10 : allB 128 (fun i => certS (2 ^ 55) 11 ((i : Int) + (206))) = true := by kernel_rfl
theorem e11 : allB 128 (fun i => certE (2 ^ 54) 11 ((i : Int) + (334))) = true := by kernel_rfl
theorem s11 : allB 128 (fun i => certS (2 ^ 55) 11 ((i : Int) + (334))) = true := by kernel_rfl
end Go.Proofs.YtiopeaponffmdaaDoor.Fm
