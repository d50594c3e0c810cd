import Derived.Test.YbulkbpbmPlain
/-! The law's plain function at 120 .. 639: by the kernel. -/
namespace Go.Proofs.Ybulkbpbm.fl
theorem far5_0 : (List.range 40).all (fun i => farOk ((i : Int) + (120))) = true := by decide +kernel
theorem far5_1 : (List.range 40).all (fun i => farOk ((i : Int) + (160))) = true := by decide +kernel
theorem far5_2 : (List.range 40).all (fun i => farOk ((i : Int) + (200))) = true := by decide +kernel
theorem far5_3 : (List.range 40).all (fun i => farOk ((i : Int) + (240))) = true := by decide +kernel
theorem far5_4 : (List.range 40).all (fun i => farOk ((i : Int) + (280))) = true := by decide +kernel
theorem far5_5 : (List.range 40).all (fun i => farOk ((i : Int) + (320))) = true := by decide +kernel
theorem far5_6 : (List.range 40).all (fun i => farOk ((i : Int) + (360))) = true := by decide +kernel
theorem far5_7 : (List.range 40).all (fun i => farOk ((i : Int) + (400))) = true := by decide +kernel
theorem far5_8 : (List.range 40).all (fun i => farOk ((i : Int) + (440))) = true := by decide +kernel
theorem far5_9 : (List.range 40).all (fun i => farOk ((i : Int) + (480))) = true := by decide +kernel
theorem far5_10 : (List.range 40).all (fun i => farOk ((i : Int) + (520))) = true := by decide +kernel
theorem far5_11 : (List.range 40).all (fun i => farOk ((i : Int) + (560))) = true := by decide +kernel
theorem far5_12 : (List.range 40).all (fun i => farOk ((i : Int) + (600))) = true := by decide +kernel
theorem far5 (m : Int) (h1 : 120 ≤ m) (h2 : m < 640) : farOk m = true := by
  by_cases g0 : m < 160
  · exact farIn far5_0 m (by omega) (by omega)
  by_cases g1 : m < 200
  · exact farIn far5_1 m (by omega) (by omega)
  by_cases g2 : m < 240
  · exact farIn far5_2 m (by omega) (by omega)
  by_cases g3 : m < 280
  · exact farIn far5_3 m (by omega) (by omega)
  by_cases g4 : m < 320
  · exact farIn far5_4 m (by omega) (by omega)
  by_cases g5 : m < 360
  · exact farIn far5_5 m (by omega) (by omega)
  by_cases g6 : m < 400
  · exact farIn far5_6 m (by omega) (by omega)
  by_cases g7 : m < 440
  · exact farIn far5_7 m (by omega) (by omega)
  by_cases g8 : m < 480
  · exact farIn far5_8 m (by omega) (by omega)
  by_cases g9 : m < 520
  · exact farIn far5_9 m (by omega) (by omega)
  by_cases g10 : m < 560
  · exact farIn far5_10 m (by omega) (by omega)
  by_cases g11 : m < 600
  · exact farIn far5_11 m (by omega) (by omega)
  by_cases g12 : m < 640
  · exact farIn far5_12 m (by omega) (by omega)
  exact absurd h2 g12
end Go.Proofs.Ybulkbpbm.fl
