import Derived.Test.YbulkbpbmPlain
/-! The law's plain function at -3999 .. -1961: by the kernel. -/
namespace Go.Proofs.Ybulkbpbm.fl
theorem far0_0 : (List.range 400).all (fun i => farOk ((i : Int) + (-3999))) = true := by decide +kernel
theorem far0_1 : (List.range 400).all (fun i => farOk ((i : Int) + (-3599))) = true := by decide +kernel
theorem far0_2 : (List.range 400).all (fun i => farOk ((i : Int) + (-3199))) = true := by decide +kernel
theorem far0_3 : (List.range 400).all (fun i => farOk ((i : Int) + (-2799))) = true := by decide +kernel
theorem far0_4 : (List.range 400).all (fun i => farOk ((i : Int) + (-2399))) = true := by decide +kernel
theorem far0_5 : (List.range 39).all (fun i => farOk ((i : Int) + (-1999))) = true := by decide +kernel
theorem far0 (m : Int) (h1 : -3999 ≤ m) (h2 : m < -1960) : farOk m = true := by
  by_cases g0 : m < -3599
  · exact farIn far0_0 m (by omega) (by omega)
  by_cases g1 : m < -3199
  · exact farIn far0_1 m (by omega) (by omega)
  by_cases g2 : m < -2799
  · exact farIn far0_2 m (by omega) (by omega)
  by_cases g3 : m < -2399
  · exact farIn far0_3 m (by omega) (by omega)
  by_cases g4 : m < -1999
  · exact farIn far0_4 m (by omega) (by omega)
  by_cases g5 : m < -1960
  · exact farIn far0_5 m (by omega) (by omega)
  exact absurd h2 g5
end Go.Proofs.Ybulkbpbm.fl
