/-
  The logarithmic mapping: looks at the borders between indices. (Printed by gen_chk.py.)
-/
import Derived.Test.YtgommnmmifgbgaaGAK
section
namespace Go.Proofs.Ytgommnmmifgbgaa
set_option maxRecDepth 100000
set_option exponentiation.threshold 5000

theorem lookLog46_0 : chunkK (lowerLogQ 0 4607206767501909589) (lookI (idxLogQ 0 4607206767501909589)) 4609254074628607836 46 29 0 (-14) = true := by decide +kernel
theorem lookLog47_0 : chunkK (lowerLogQ 0 4607004589348023346) (lookI (idxLogQ 0 4607004589348023346)) 4609299110624881541 47 29 0 (-14) = true := by decide +kernel
theorem lookLog48_0 : chunkK (lowerLogQ 0 4606786567573007331) (lookI (idxLogQ 0 4606786567573007331)) 4609344146621155246 48 29 0 (-14) = true := by decide +kernel
theorem lookLog49_0 : chunkK (lowerLogQ 0 4606576511936812258) (lookI (idxLogQ 0 4606576511936812258)) 4609389182617428951 49 27 0 (-13) = true := by decide +kernel
theorem lookLog50_0 : chunkK (lowerLogQ 0 4606373925628985684) (lookI (idxLogQ 0 4606373925628985684)) 4609434218613702656 50 27 0 (-13) = true := by decide +kernel
end Go.Proofs.Ytgommnmmifgbgaa
end
