import Derived.Test.YbulkbpbmFarT0
import Derived.Test.YbulkbpbmFarT1
import Derived.Test.YbulkbpbmFarT2
import Derived.Test.YbulkbpbmFarT3
import Derived.Test.YbulkbpbmFarT4
import Derived.Test.YbulkbpbmFarT5
import Derived.Test.YbulkbpbmFarT6
import Derived.Test.YbulkbpbmFarT7
import Derived.Test.YbulkbpbmFarT8
import Derived.Test.YbulkbpbmFarT9
namespace Go.Proofs.Ybulkbpbm.fl
theorem far_all (m : Int) (h1 : -3999 ≤ m) (h2 : m ≤ 3999) : farOk m = true := by
  by_cases g0 : m < -1960
  · exact far0 m (by omega) (by omega)
  by_cases g1 : m < -1440
  · exact far1 m (by omega) (by omega)
  by_cases g2 : m < -920
  · exact far2 m (by omega) (by omega)
  by_cases g3 : m < -400
  · exact far3 m (by omega) (by omega)
  by_cases g4 : m < 120
  · exact far4 m (by omega) (by omega)
  by_cases g5 : m < 640
  · exact far5 m (by omega) (by omega)
  by_cases g6 : m < 1160
  · exact far6 m (by omega) (by omega)
  by_cases g7 : m < 1680
  · exact far7 m (by omega) (by omega)
  by_cases g8 : m < 1960
  · exact far8 m (by omega) (by omega)
  by_cases g9 : m < 4000
  · exact far9 m (by omega) (by omega)
  omega
end Go.Proofs.Ybulkbpbm.fl
