/- The texts of a proof, its declarations alone: part 12. -/
import Derived.KernelRfl
import Derived.Test.YtiopeaponffmdaaDoorVU8
set_option linter.unusedVariables false
set_option linter.unusedSimpArgs false
-- YtiopeaponffmdaaDoorMe1
namespace Go.Proofs.YtiopeaponffmdaaDoor.Fm
theorem e0 : allB 128 (fun i => certE (2 ^ 54) 11 ((i : Int) + (-1074))) = true := by kernel_rfl
theorem s0 : allB 128 (fun i => certS (2 ^ 55) 11 ((i : Int) + (-1074))) = true := by kernel_rfl
theorem e1 : allB 128 (fun i => certE (2 ^ 54) 11 ((i : Int) + (-946))) = true := by kernel_rfl
theorem s1 : allB 128 (fun i => certS (2 ^ 55) 11 ((i : Int) + (-946))) = true := by kernel_rfl
theorem e2 : allB 128 (fun i => certE (2 ^ 54) 11 ((i : Int) + (-818))) = true := by kernel_rfl
theorem s2 : allB 128 (fun i => certS (2 ^ 55) 11 ((i : Int) + (-818))) = true := by kernel_rfl
theorem e3 : allB 128 (fun i => certE (2 ^ 54) 11 ((i : Int) + (-690))) = true := by kernel_rfl
theorem s3 : allB 128 (fun i => certS (2 ^ 55) 11 ((i : Int) + (-690))) = true := by kernel_rfl
end Go.Proofs.YtiopeaponffmdaaDoor.Fm
