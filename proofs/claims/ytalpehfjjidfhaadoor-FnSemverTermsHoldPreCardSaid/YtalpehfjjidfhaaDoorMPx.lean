-- Written by a program of this session (wip/tools/myprint.py over the kit's print).
import Derived.Test.YtalpehfjjidfhaaDoorMPx0
import Derived.Test.YtalpehfjjidfhaaDoorMPx1
import Derived.Test.YtalpehfjjidfhaaDoorMPx2
import Derived.Test.YtalpehfjjidfhaaDoorMPx3
import Derived.Test.YtalpehfjjidfhaaDoorMPx4
import Derived.Test.YtalpehfjjidfhaaDoorMPx5
import Derived.Test.YtalpehfjjidfhaaDoorMPx6
import Derived.Test.YtalpehfjjidfhaaDoorMPx7
import Derived.Test.YtalpehfjjidfhaaDoorMPx8
import Derived.Test.YtalpehfjjidfhaaDoorMPx9
import Derived.Test.YtalpehfjjidfhaaDoorMPx10
namespace Go.Proofs.YtalpehfjjidfhaaDoor.MP
open Go.RowKit Go.Proofs.YtalpehfjjidfhaaDoorW.PrintWords Go.Proofs.YtalpehfjjidfhaaDoorW.PrintLast Go.Proofs.YtalpehfjjidfhaaDoorW.PrintMore Go.Proofs.YtalpehfjjidfhaaDoor
attribute [local go_sem] max2_int min2_int max_two min_two max_three min_three max_four min_four   -- for this text's walks alone
set_option linter.unusedVariables false
set_option linter.unusedSimpArgs false

end Go.Proofs.YtalpehfjjidfhaaDoor.MP
