/- The texts of a proof, its declarations alone: part 13. -/
import Derived.KernelRfl
import Derived.Test.YtiopeaponffmdaaDoorVA1
import Derived.Test.YtiopeaponffmdaaDoorVA2
import Derived.Test.YtiopeaponffmdaaDoorVA3
import Derived.Test.YtiopeaponffmdaaDoorVA4
import Derived.Test.YtiopeaponffmdaaDoorVA5
import Derived.Test.YtiopeaponffmdaaDoorVA6
import Derived.Test.YtiopeaponffmdaaDoorVA7
import Derived.Test.YtiopeaponffmdaaDoorVA8
import Derived.Test.YtiopeaponffmdaaDoorVA9
import Derived.Test.YtiopeaponffmdaaDoorVA10
import Derived.Test.YtiopeaponffmdaaDoorVA11
import Derived.Test.YtiopeaponffmdaaDoorVA12
set_option linter.unusedVariables false
set_option linter.unusedSimpArgs false
-- YtiopeaponffmdaaDoorMe2
namespace Go.Proofs.YtiopeaponffmdaaDoor.Fm
theorem e4 : allB 128 (fun i => certE (2 ^ 54) 11 ((i : Int) + (-562))) = true := by kernel_rfl
theorem s4 : allB 128 (fun i => certS (2 ^ 55) 11 ((i : Int) + (-562))) = true := by kernel_rfl
theorem e5 : allB 128 (fun i => certE (2 ^ 54) 11 ((i : Int) + (-434))) = true := by kernel_rfl
theorem s5 : allB 128 (fun i => certS (2 ^ 55) 11 ((i : Int) + (-434))) = true := by kernel_rfl
theorem e6 : allB 128 (fun i => certE (2 ^ 54) 11 ((i : Int) + (-306))) = true := by kernel_rfl
theorem s6 : allB 128 (fun i => certS (2 ^ 55) 11 ((i : Int) + (-306))) = true := by kernel_rfl
theorem e7 : allB 128 (fun i => certE (2 ^ 54) 11 ((i : Int) + (-178))) = true := by kernel_rfl
theorem s7 : allB 128 (fun i => certS (2 ^ 55) 11 ((i : Int) + (-178))) = true := by kernel_rfl
end Go.Proofs.YtiopeaponffmdaaDoor.Fm
