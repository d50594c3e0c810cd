import Derived.Test.YbulkbpbmPlain
/-! The law's plain function at 640 .. 1159: by the kernel. -/
namespace Go.Proofs.Ybulkbpbm.fl
theorem far6_0 : (List.range 40).all (fun i => farOk ((i : Int) + (640))) = true := by decide +kernel
theorem far6_1 : (List.range 40).all (fun i => farOk ((i : Int) + (680))) = true := by decide +kernel
theorem far6_2 : (List.range 40).all (fun i => farOk ((i : Int) + (720))) = true := by decide +kernel
theorem far6_3 : (List.range 40).all (fun i => farOk ((i : Int) + (760))) = true := by decide +kernel
theorem far6_4 : (List.range 40).all (fun i => farOk ((i : Int) + (800))) = true := by decide +kernel
theorem far6_5 : (List.range 40).all (fun i => farOk ((i : Int) + (840))) = true := by decide +kernel
theorem far6_6 : (List.range 40).all (fun i => farOk ((i : Int) + (880))) = true := by decide +kernel
theorem far6_7 : (List.range 40).all (fun i => farOk ((i : Int) + (920))) = true := by decide +kernel
theorem far6_8 : (List.range 40).all (fun i => farOk ((i : Int) + (960))) = true := by decide +kernel
theorem far6_9 : (List.range 40).all (fun i => farOk ((i : Int) + (1000))) = true := by decide +kernel
theorem far6_10 : (List.range 40).all (fun i => farOk ((i : Int) + (1040))) = true := by decide +kernel
theorem far6_11 : (List.range 40).all (fun i => farOk ((i : Int) + (1080))) = true := by decide +kernel
theorem far6_12 : (List.range 40).all (fun i => farOk ((i : Int) + (1120))) = true := by decide +kernel
theorem far6 (m : Int) (h1 : 640 ≤ m) (h2 : m < 1160) : farOk m = true := by
  by_cases g0 : m < 680
  · exact farIn far6_0 m (by omega) (by omega)
  by_cases g1 : m < 720
  · exact farIn far6_1 m (by omega) (by omega)
  by_cases g2 : m < 760
  · exact farIn far6_2 m (by omega) (by omega)
  by_cases g3 : m < 800
  · exact farIn far6_3 m (by omega) (by omega)
  by_cases g4 : m < 840
  · exact farIn far6_4 m (by omega) (by omega)
  by_cases g5 : m < 880
  · exact farIn far6_5 m (by omega) (by omega)
  by_cases g6 : m < 920
  · exact farIn far6_6 m (by omega) (by omega)
  by_cases g7 : m < 960
  · exact farIn far6_7 m (by omega) (by omega)
  by_cases g8 : m < 1000
  · exact farIn far6_8 m (by omega) (by omega)
  by_cases g9 : m < 1040
  · exact farIn far6_9 m (by omega) (by omega)
  by_cases g10 : m < 1080
  · exact farIn far6_10 m (by omega) (by omega)
  by_cases g11 : m < 1120
  · exact farIn far6_11 m (by omega) (by omega)
  by_cases g12 : m < 1160
  · exact farIn far6_12 m (by omega) (by omega)
  exact absurd h2 g12
end Go.Proofs.Ybulkbpbm.fl
