/-
  The logarithmic mapping: looks at the borders between indices. (Printed by gen_chk.py.)
-/
import Derived.Test.YtgommnmmifgbgaaGAK
section
namespace Go.Proofs.Ytgommnmmifgbgaa
set_option maxRecDepth 100000
set_option exponentiation.threshold 5000

theorem lookLog1_3 : chunkK (lowerLogQ 0 4632233457158529904) (lookI (idxLogQ 0 4632233457158529904)) 4607227454796291112 1 250 0 (59) = true := by decide +kernel
theorem lookLog1_4 : chunkK (lowerLogQ 0 4632233457158529904) (lookI (idxLogQ 0 4632233457158529904)) 4607227454796291112 1 250 0 (309) = true := by decide +kernel
theorem lookLog1_5 : chunkK (lowerLogQ 0 4632233457158529904) (lookI (idxLogQ 0 4632233457158529904)) 4607227454796291112 1 133 0 (559) = true := by decide +kernel
theorem lookLog2_0 : chunkK (lowerLogQ 0 4627729153749871953) (lookI (idxLogQ 0 4627729153749871953)) 4607272490792564818 2 250 0 (-346) = true := by decide +kernel
end Go.Proofs.Ytgommnmmifgbgaa
end
