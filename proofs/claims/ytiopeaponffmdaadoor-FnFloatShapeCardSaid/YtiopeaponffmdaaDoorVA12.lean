/- The texts of a proof, its declarations alone: part 12. -/
import Derived.KernelRfl
import Derived.Test.YtiopeaponffmdaaDoorVA1
import Derived.Test.YtiopeaponffmdaaDoorVA2
import Derived.Test.YtiopeaponffmdaaDoorVA3
import Derived.Test.YtiopeaponffmdaaDoorVA4
import Derived.Test.YtiopeaponffmdaaDoorVA5
import Derived.Test.YtiopeaponffmdaaDoorVA6
import Derived.Test.YtiopeaponffmdaaDoorVA7
import Derived.Test.YtiopeaponffmdaaDoorVA8
import Derived.Test.YtiopeaponffmdaaDoorVA9
import Derived.Test.YtiopeaponffmdaaDoorVA10
import Derived.Test.YtiopeaponffmdaaDoorVA11
set_option linter.unusedVariables false
set_option linter.unusedSimpArgs false
-- YtiopeaponffmdaaDoorMe1
namespace Go.Proofs.YtiopeaponffmdaaDoor.Fm
theorem e0 : allB 128 (fun i => certE (2 ^ 54) 11 ((i : Int) + (-1074))) = true := by kernel_rfl
theorem s0 : allB 128 (fun i => certS (2 ^ 55) 11 ((i : Int) + (-1074))) = true := by kernel_rfl
theorem e1 : allB 128 (fun i => certE (2 ^ 54) 11 ((i : Int) + (-946))) = true := by kernel_rfl
theorem s1 : allB 128 (fun i => certS (2 ^ 55) 11 ((i : Int) + (-946))) = true := by kernel_rfl
theorem e2 : allB 128 (fun i => certE (2 ^ 54) 11 ((i : Int) + (-818))) = true := by kernel_rfl
theorem s2 : allB 128 (fun i => certS (2 ^ 55) 11 ((i : Int) + (-818))) = true := by kernel_rfl
theorem e3 : allB 128 (fun i => certE (2 ^ 54) 11 ((i : Int) + (-690))) = true := by kernel_rfl
theorem s3 : allB 128 (fun i => certS (2 ^ 55) 11 ((i : Int) + (-690))) = true := by kernel_rfl
end Go.Proofs.YtiopeaponffmdaaDoor.Fm
