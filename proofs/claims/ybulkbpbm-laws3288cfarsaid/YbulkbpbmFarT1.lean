import Derived.Test.YbulkbpbmPlain
/-! The law's plain function at -1960 .. -1441: by the kernel. -/
namespace Go.Proofs.Ybulkbpbm.fl
theorem far1_0 : (List.range 40).all (fun i => farOk ((i : Int) + (-1960))) = true := by decide +kernel
theorem far1_1 : (List.range 40).all (fun i => farOk ((i : Int) + (-1920))) = true := by decide +kernel
theorem far1_2 : (List.range 40).all (fun i => farOk ((i : Int) + (-1880))) = true := by decide +kernel
theorem far1_3 : (List.range 40).all (fun i => farOk ((i : Int) + (-1840))) = true := by decide +kernel
theorem far1_4 : (List.range 40).all (fun i => farOk ((i : Int) + (-1800))) = true := by decide +kernel
theorem far1_5 : (List.range 40).all (fun i => farOk ((i : Int) + (-1760))) = true := by decide +kernel
theorem far1_6 : (List.range 40).all (fun i => farOk ((i : Int) + (-1720))) = true := by decide +kernel
theorem far1_7 : (List.range 40).all (fun i => farOk ((i : Int) + (-1680))) = true := by decide +kernel
theorem far1_8 : (List.range 40).all (fun i => farOk ((i : Int) + (-1640))) = true := by decide +kernel
theorem far1_9 : (List.range 40).all (fun i => farOk ((i : Int) + (-1600))) = true := by decide +kernel
theorem far1_10 : (List.range 40).all (fun i => farOk ((i : Int) + (-1560))) = true := by decide +kernel
theorem far1_11 : (List.range 40).all (fun i => farOk ((i : Int) + (-1520))) = true := by decide +kernel
theorem far1_12 : (List.range 40).all (fun i => farOk ((i : Int) + (-1480))) = true := by decide +kernel
theorem far1 (m : Int) (h1 : -1960 ≤ m) (h2 : m < -1440) : farOk m = true := by
  by_cases g0 : m < -1920
  · exact farIn far1_0 m (by omega) (by omega)
  by_cases g1 : m < -1880
  · exact farIn far1_1 m (by omega) (by omega)
  by_cases g2 : m < -1840
  · exact farIn far1_2 m (by omega) (by omega)
  by_cases g3 : m < -1800
  · exact farIn far1_3 m (by omega) (by omega)
  by_cases g4 : m < -1760
  · exact farIn far1_4 m (by omega) (by omega)
  by_cases g5 : m < -1720
  · exact farIn far1_5 m (by omega) (by omega)
  by_cases g6 : m < -1680
  · exact farIn far1_6 m (by omega) (by omega)
  by_cases g7 : m < -1640
  · exact farIn far1_7 m (by omega) (by omega)
  by_cases g8 : m < -1600
  · exact farIn far1_8 m (by omega) (by omega)
  by_cases g9 : m < -1560
  · exact farIn far1_9 m (by omega) (by omega)
  by_cases g10 : m < -1520
  · exact farIn far1_10 m (by omega) (by omega)
  by_cases g11 : m < -1480
  · exact farIn far1_11 m (by omega) (by omega)
  by_cases g12 : m < -1440
  · exact farIn far1_12 m (by omega) (by omega)
  exact absurd h2 g12
end Go.Proofs.Ybulkbpbm.fl
