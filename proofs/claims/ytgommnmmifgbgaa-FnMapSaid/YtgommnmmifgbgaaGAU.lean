/-
  The logarithmic mapping: looks at the borders between indices. (Printed by gen_chk.py.)
-/
import Derived.Test.YtgommnmmifgbgaaGAK
section
namespace Go.Proofs.Ytgommnmmifgbgaa
set_option maxRecDepth 100000
set_option exponentiation.threshold 5000

theorem lookLog2_1 : chunkK (lowerLogQ 0 4627729153749871953) (lookI (idxLogQ 0 4627729153749871953)) 4607272490792564818 2 250 0 (-96) = true := by decide +kernel
theorem lookLog2_2 : chunkK (lowerLogQ 0 4627729153749871953) (lookI (idxLogQ 0 4627729153749871953)) 4607272490792564818 2 193 0 (154) = true := by decide +kernel
theorem lookLog3_0 : chunkK (lowerLogQ 0 4625383059581160310) (lookI (idxLogQ 0 4625383059581160310)) 4607317526788838522 3 250 0 (-231) = true := by decide +kernel
theorem lookLog3_1 : chunkK (lowerLogQ 0 4625383059581160310) (lookI (idxLogQ 0 4625383059581160310)) 4607317526788838522 3 213 0 (19) = true := by decide +kernel
end Go.Proofs.Ytgommnmmifgbgaa
end
