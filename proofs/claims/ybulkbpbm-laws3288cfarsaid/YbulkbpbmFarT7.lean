import Derived.Test.YbulkbpbmPlain
/-! The law's plain function at 1160 .. 1679: by the kernel. -/
namespace Go.Proofs.Ybulkbpbm.fl
theorem far7_0 : (List.range 40).all (fun i => farOk ((i : Int) + (1160))) = true := by decide +kernel
theorem far7_1 : (List.range 40).all (fun i => farOk ((i : Int) + (1200))) = true := by decide +kernel
theorem far7_2 : (List.range 40).all (fun i => farOk ((i : Int) + (1240))) = true := by decide +kernel
theorem far7_3 : (List.range 40).all (fun i => farOk ((i : Int) + (1280))) = true := by decide +kernel
theorem far7_4 : (List.range 40).all (fun i => farOk ((i : Int) + (1320))) = true := by decide +kernel
theorem far7_5 : (List.range 40).all (fun i => farOk ((i : Int) + (1360))) = true := by decide +kernel
theorem far7_6 : (List.range 40).all (fun i => farOk ((i : Int) + (1400))) = true := by decide +kernel
theorem far7_7 : (List.range 40).all (fun i => farOk ((i : Int) + (1440))) = true := by decide +kernel
theorem far7_8 : (List.range 40).all (fun i => farOk ((i : Int) + (1480))) = true := by decide +kernel
theorem far7_9 : (List.range 40).all (fun i => farOk ((i : Int) + (1520))) = true := by decide +kernel
theorem far7_10 : (List.range 40).all (fun i => farOk ((i : Int) + (1560))) = true := by decide +kernel
theorem far7_11 : (List.range 40).all (fun i => farOk ((i : Int) + (1600))) = true := by decide +kernel
theorem far7_12 : (List.range 40).all (fun i => farOk ((i : Int) + (1640))) = true := by decide +kernel
theorem far7 (m : Int) (h1 : 1160 ≤ m) (h2 : m < 1680) : farOk m = true := by
  by_cases g0 : m < 1200
  · exact farIn far7_0 m (by omega) (by omega)
  by_cases g1 : m < 1240
  · exact farIn far7_1 m (by omega) (by omega)
  by_cases g2 : m < 1280
  · exact farIn far7_2 m (by omega) (by omega)
  by_cases g3 : m < 1320
  · exact farIn far7_3 m (by omega) (by omega)
  by_cases g4 : m < 1360
  · exact farIn far7_4 m (by omega) (by omega)
  by_cases g5 : m < 1400
  · exact farIn far7_5 m (by omega) (by omega)
  by_cases g6 : m < 1440
  · exact farIn far7_6 m (by omega) (by omega)
  by_cases g7 : m < 1480
  · exact farIn far7_7 m (by omega) (by omega)
  by_cases g8 : m < 1520
  · exact farIn far7_8 m (by omega) (by omega)
  by_cases g9 : m < 1560
  · exact farIn far7_9 m (by omega) (by omega)
  by_cases g10 : m < 1600
  · exact farIn far7_10 m (by omega) (by omega)
  by_cases g11 : m < 1640
  · exact farIn far7_11 m (by omega) (by omega)
  by_cases g12 : m < 1680
  · exact farIn far7_12 m (by omega) (by omega)
  exact absurd h2 g12
end Go.Proofs.Ybulkbpbm.fl
