/-
  The logarithmic mapping: looks at the borders between indices. (Printed by gen_chk.py.)
-/
import Derived.Test.YtgommnmmifgbgaaGAK
section
namespace Go.Proofs.Ytgommnmmifgbgaa
set_option maxRecDepth 100000
set_option exponentiation.threshold 5000

theorem lookLog4_0 : chunkK (lowerLogQ 0 4623222737870212026) (lookI (idxLogQ 0 4623222737870212026)) 4607362562785112228 4 250 0 (-173) = true := by decide +kernel
theorem lookLog4_1 : chunkK (lowerLogQ 0 4623222737870212026) (lookI (idxLogQ 0 4623222737870212026)) 4607362562785112228 4 97 0 (77) = true := by decide +kernel
theorem lookLog5_0 : chunkK (lowerLogQ 0 4621814423207757742) (lookI (idxLogQ 0 4621814423207757742)) 4607407598781385934 5 250 0 (-139) = true := by decide +kernel
theorem lookLog5_1 : chunkK (lowerLogQ 0 4621814423207757742) (lookI (idxLogQ 0 4621814423207757742)) 4607407598781385934 5 29 0 (111) = true := by decide +kernel
theorem lookLog6_0 : chunkK (lowerLogQ 0 4620875232752534038) (lookI (idxLogQ 0 4620875232752534038)) 4607452634777659638 6 231 0 (-115) = true := by decide +kernel
end Go.Proofs.Ytgommnmmifgbgaa
end
