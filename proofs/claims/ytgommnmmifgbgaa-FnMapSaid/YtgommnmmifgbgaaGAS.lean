/-
  The logarithmic mapping: looks at the borders between indices. (Printed by gen_chk.py.)
-/
import Derived.Test.YtgommnmmifgbgaaGAK
section
namespace Go.Proofs.Ytgommnmmifgbgaa
set_option maxRecDepth 100000
set_option exponentiation.threshold 5000

theorem lookLog1_0 : chunkK (lowerLogQ 0 4632233457158529904) (lookI (idxLogQ 0 4632233457158529904)) 4607227454796291112 1 250 0 (-691) = true := by decide +kernel
theorem lookLog1_1 : chunkK (lowerLogQ 0 4632233457158529904) (lookI (idxLogQ 0 4632233457158529904)) 4607227454796291112 1 250 0 (-441) = true := by decide +kernel
theorem lookLog1_2 : chunkK (lowerLogQ 0 4632233457158529904) (lookI (idxLogQ 0 4632233457158529904)) 4607227454796291112 1 250 0 (-191) = true := by decide +kernel
end Go.Proofs.Ytgommnmmifgbgaa
end
