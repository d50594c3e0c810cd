import Derived.Test.YbulkbpbmPlain
/-! The law's plain function at -920 .. -401: by the kernel. -/
namespace Go.Proofs.Ybulkbpbm.fl
theorem far3_0 : (List.range 40).all (fun i => farOk ((i : Int) + (-920))) = true := by decide +kernel
theorem far3_1 : (List.range 40).all (fun i => farOk ((i : Int) + (-880))) = true := by decide +kernel
theorem far3_2 : (List.range 40).all (fun i => farOk ((i : Int) + (-840))) = true := by decide +kernel
theorem far3_3 : (List.range 40).all (fun i => farOk ((i : Int) + (-800))) = true := by decide +kernel
theorem far3_4 : (List.range 40).all (fun i => farOk ((i : Int) + (-760))) = true := by decide +kernel
theorem far3_5 : (List.range 40).all (fun i => farOk ((i : Int) + (-720))) = true := by decide +kernel
theorem far3_6 : (List.range 40).all (fun i => farOk ((i : Int) + (-680))) = true := by decide +kernel
theorem far3_7 : (List.range 40).all (fun i => farOk ((i : Int) + (-640))) = true := by decide +kernel
theorem far3_8 : (List.range 40).all (fun i => farOk ((i : Int) + (-600))) = true := by decide +kernel
theorem far3_9 : (List.range 40).all (fun i => farOk ((i : Int) + (-560))) = true := by decide +kernel
theorem far3_10 : (List.range 40).all (fun i => farOk ((i : Int) + (-520))) = true := by decide +kernel
theorem far3_11 : (List.range 40).all (fun i => farOk ((i : Int) + (-480))) = true := by decide +kernel
theorem far3_12 : (List.range 40).all (fun i => farOk ((i : Int) + (-440))) = true := by decide +kernel
theorem far3 (m : Int) (h1 : -920 ≤ m) (h2 : m < -400) : farOk m = true := by
  by_cases g0 : m < -880
  · exact farIn far3_0 m (by omega) (by omega)
  by_cases g1 : m < -840
  · exact farIn far3_1 m (by omega) (by omega)
  by_cases g2 : m < -800
  · exact farIn far3_2 m (by omega) (by omega)
  by_cases g3 : m < -760
  · exact farIn far3_3 m (by omega) (by omega)
  by_cases g4 : m < -720
  · exact farIn far3_4 m (by omega) (by omega)
  by_cases g5 : m < -680
  · exact farIn far3_5 m (by omega) (by omega)
  by_cases g6 : m < -640
  · exact farIn far3_6 m (by omega) (by omega)
  by_cases g7 : m < -600
  · exact farIn far3_7 m (by omega) (by omega)
  by_cases g8 : m < -560
  · exact farIn far3_8 m (by omega) (by omega)
  by_cases g9 : m < -520
  · exact farIn far3_9 m (by omega) (by omega)
  by_cases g10 : m < -480
  · exact farIn far3_10 m (by omega) (by omega)
  by_cases g11 : m < -440
  · exact farIn far3_11 m (by omega) (by omega)
  by_cases g12 : m < -400
  · exact farIn far3_12 m (by omega) (by omega)
  exact absurd h2 g12
end Go.Proofs.Ybulkbpbm.fl
