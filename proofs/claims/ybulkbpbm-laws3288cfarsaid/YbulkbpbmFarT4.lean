import Derived.Test.YbulkbpbmPlain
/-! The law's plain function at -400 .. 119: by the kernel. -/
namespace Go.Proofs.Ybulkbpbm.fl
theorem far4_0 : (List.range 40).all (fun i => farOk ((i : Int) + (-400))) = true := by decide +kernel
theorem far4_1 : (List.range 40).all (fun i => farOk ((i : Int) + (-360))) = true := by decide +kernel
theorem far4_2 : (List.range 40).all (fun i => farOk ((i : Int) + (-320))) = true := by decide +kernel
theorem far4_3 : (List.range 40).all (fun i => farOk ((i : Int) + (-280))) = true := by decide +kernel
theorem far4_4 : (List.range 40).all (fun i => farOk ((i : Int) + (-240))) = true := by decide +kernel
theorem far4_5 : (List.range 40).all (fun i => farOk ((i : Int) + (-200))) = true := by decide +kernel
theorem far4_6 : (List.range 40).all (fun i => farOk ((i : Int) + (-160))) = true := by decide +kernel
theorem far4_7 : (List.range 40).all (fun i => farOk ((i : Int) + (-120))) = true := by decide +kernel
theorem far4_8 : (List.range 40).all (fun i => farOk ((i : Int) + (-80))) = true := by decide +kernel
theorem far4_9 : (List.range 40).all (fun i => farOk ((i : Int) + (-40))) = true := by decide +kernel
theorem far4_10 : (List.range 40).all (fun i => farOk ((i : Int) + (0))) = true := by decide +kernel
theorem far4_11 : (List.range 40).all (fun i => farOk ((i : Int) + (40))) = true := by decide +kernel
theorem far4_12 : (List.range 40).all (fun i => farOk ((i : Int) + (80))) = true := by decide +kernel
theorem far4 (m : Int) (h1 : -400 ≤ m) (h2 : m < 120) : farOk m = true := by
  by_cases g0 : m < -360
  · exact farIn far4_0 m (by omega) (by omega)
  by_cases g1 : m < -320
  · exact farIn far4_1 m (by omega) (by omega)
  by_cases g2 : m < -280
  · exact farIn far4_2 m (by omega) (by omega)
  by_cases g3 : m < -240
  · exact farIn far4_3 m (by omega) (by omega)
  by_cases g4 : m < -200
  · exact farIn far4_4 m (by omega) (by omega)
  by_cases g5 : m < -160
  · exact farIn far4_5 m (by omega) (by omega)
  by_cases g6 : m < -120
  · exact farIn far4_6 m (by omega) (by omega)
  by_cases g7 : m < -80
  · exact farIn far4_7 m (by omega) (by omega)
  by_cases g8 : m < -40
  · exact farIn far4_8 m (by omega) (by omega)
  by_cases g9 : m < 0
  · exact farIn far4_9 m (by omega) (by omega)
  by_cases g10 : m < 40
  · exact farIn far4_10 m (by omega) (by omega)
  by_cases g11 : m < 80
  · exact farIn far4_11 m (by omega) (by omega)
  by_cases g12 : m < 120
  · exact farIn far4_12 m (by omega) (by omega)
  exact absurd h2 g12
end Go.Proofs.Ybulkbpbm.fl
