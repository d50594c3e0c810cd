import Derived.Test.YbulkbpbmPlain
/-! The law's plain function at -1440 .. -921: by the kernel. -/
namespace Go.Proofs.Ybulkbpbm.fl
theorem far2_0 : (List.range 40).all (fun i => farOk ((i : Int) + (-1440))) = true := by decide +kernel
theorem far2_1 : (List.range 40).all (fun i => farOk ((i : Int) + (-1400))) = true := by decide +kernel
theorem far2_2 : (List.range 40).all (fun i => farOk ((i : Int) + (-1360))) = true := by decide +kernel
theorem far2_3 : (List.range 40).all (fun i => farOk ((i : Int) + (-1320))) = true := by decide +kernel
theorem far2_4 : (List.range 40).all (fun i => farOk ((i : Int) + (-1280))) = true := by decide +kernel
theorem far2_5 : (List.range 40).all (fun i => farOk ((i : Int) + (-1240))) = true := by decide +kernel
theorem far2_6 : (List.range 40).all (fun i => farOk ((i : Int) + (-1200))) = true := by decide +kernel
theorem far2_7 : (List.range 40).all (fun i => farOk ((i : Int) + (-1160))) = true := by decide +kernel
theorem far2_8 : (List.range 40).all (fun i => farOk ((i : Int) + (-1120))) = true := by decide +kernel
theorem far2_9 : (List.range 40).all (fun i => farOk ((i : Int) + (-1080))) = true := by decide +kernel
theorem far2_10 : (List.range 40).all (fun i => farOk ((i : Int) + (-1040))) = true := by decide +kernel
theorem far2_11 : (List.range 40).all (fun i => farOk ((i : Int) + (-1000))) = true := by decide +kernel
theorem far2_12 : (List.range 40).all (fun i => farOk ((i : Int) + (-960))) = true := by decide +kernel
theorem far2 (m : Int) (h1 : -1440 ≤ m) (h2 : m < -920) : farOk m = true := by
  by_cases g0 : m < -1400
  · exact farIn far2_0 m (by omega) (by omega)
  by_cases g1 : m < -1360
  · exact farIn far2_1 m (by omega) (by omega)
  by_cases g2 : m < -1320
  · exact farIn far2_2 m (by omega) (by omega)
  by_cases g3 : m < -1280
  · exact farIn far2_3 m (by omega) (by omega)
  by_cases g4 : m < -1240
  · exact farIn far2_4 m (by omega) (by omega)
  by_cases g5 : m < -1200
  · exact farIn far2_5 m (by omega) (by omega)
  by_cases g6 : m < -1160
  · exact farIn far2_6 m (by omega) (by omega)
  by_cases g7 : m < -1120
  · exact farIn far2_7 m (by omega) (by omega)
  by_cases g8 : m < -1080
  · exact farIn far2_8 m (by omega) (by omega)
  by_cases g9 : m < -1040
  · exact farIn far2_9 m (by omega) (by omega)
  by_cases g10 : m < -1000
  · exact farIn far2_10 m (by omega) (by omega)
  by_cases g11 : m < -960
  · exact farIn far2_11 m (by omega) (by omega)
  by_cases g12 : m < -920
  · exact farIn far2_12 m (by omega) (by omega)
  exact absurd h2 g12
end Go.Proofs.Ybulkbpbm.fl
