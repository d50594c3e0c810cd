import Derived.Test.YbulkbpbmPlain
/-! The law's plain function at 1680 .. 1959: by the kernel. -/
namespace Go.Proofs.Ybulkbpbm.fl
theorem far8_0 : (List.range 40).all (fun i => farOk ((i : Int) + (1680))) = true := by decide +kernel
theorem far8_1 : (List.range 40).all (fun i => farOk ((i : Int) + (1720))) = true := by decide +kernel
theorem far8_2 : (List.range 40).all (fun i => farOk ((i : Int) + (1760))) = true := by decide +kernel
theorem far8_3 : (List.range 40).all (fun i => farOk ((i : Int) + (1800))) = true := by decide +kernel
theorem far8_4 : (List.range 40).all (fun i => farOk ((i : Int) + (1840))) = true := by decide +kernel
theorem far8_5 : (List.range 40).all (fun i => farOk ((i : Int) + (1880))) = true := by decide +kernel
theorem far8_6 : (List.range 40).all (fun i => farOk ((i : Int) + (1920))) = true := by decide +kernel
theorem far8 (m : Int) (h1 : 1680 ≤ m) (h2 : m < 1960) : farOk m = true := by
  by_cases g0 : m < 1720
  · exact farIn far8_0 m (by omega) (by omega)
  by_cases g1 : m < 1760
  · exact farIn far8_1 m (by omega) (by omega)
  by_cases g2 : m < 1800
  · exact farIn far8_2 m (by omega) (by omega)
  by_cases g3 : m < 1840
  · exact farIn far8_3 m (by omega) (by omega)
  by_cases g4 : m < 1880
  · exact farIn far8_4 m (by omega) (by omega)
  by_cases g5 : m < 1920
  · exact farIn far8_5 m (by omega) (by omega)
  by_cases g6 : m < 1960
  · exact farIn far8_6 m (by omega) (by omega)
  exact absurd h2 g6
end Go.Proofs.Ybulkbpbm.fl
