import Derived.Test.YbulkbpbmPlain
/-! The law's plain function at 1960 .. 3999: by the kernel. -/
namespace Go.Proofs.Ybulkbpbm.fl
theorem far9_0 : (List.range 400).all (fun i => farOk ((i : Int) + (1960))) = true := by decide +kernel
theorem far9_1 : (List.range 400).all (fun i => farOk ((i : Int) + (2360))) = true := by decide +kernel
theorem far9_2 : (List.range 400).all (fun i => farOk ((i : Int) + (2760))) = true := by decide +kernel
theorem far9_3 : (List.range 400).all (fun i => farOk ((i : Int) + (3160))) = true := by decide +kernel
theorem far9_4 : (List.range 400).all (fun i => farOk ((i : Int) + (3560))) = true := by decide +kernel
theorem far9_5 : (List.range 40).all (fun i => farOk ((i : Int) + (3960))) = true := by decide +kernel
theorem far9 (m : Int) (h1 : 1960 ≤ m) (h2 : m < 4000) : farOk m = true := by
  by_cases g0 : m < 2360
  · exact farIn far9_0 m (by omega) (by omega)
  by_cases g1 : m < 2760
  · exact farIn far9_1 m (by omega) (by omega)
  by_cases g2 : m < 3160
  · exact farIn far9_2 m (by omega) (by omega)
  by_cases g3 : m < 3560
  · exact farIn far9_3 m (by omega) (by omega)
  by_cases g4 : m < 3960
  · exact farIn far9_4 m (by omega) (by omega)
  by_cases g5 : m < 4000
  · exact farIn far9_5 m (by omega) (by omega)
  exact absurd h2 g5
end Go.Proofs.Ybulkbpbm.fl
