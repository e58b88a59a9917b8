/-
  The logarithmic mapping: looks at the borders between indices. (Printed by gen_chk.py.)
-/
import Derived.Test.YtgommnmmifgbgaaGAK
section
namespace Go.Proofs.Ytgommnmmifgbgaa
set_option maxRecDepth 100000
set_option exponentiation.threshold 5000

theorem lookLog7_0 : chunkK (lowerLogQ 0 4619715007912295160) (lookI (idxLogQ 0 4619715007912295160)) 4607497670773933342 7 199 0 (-99) = true := by decide +kernel
theorem lookLog8_0 : chunkK (lowerLogQ 0 4618707855139670793) (lookI (idxLogQ 0 4618707855139670793)) 4607542706770207048 8 175 0 (-87) = true := by decide +kernel
theorem lookLog9_0 : chunkK (lowerLogQ 0 4617924092776493676) (lookI (idxLogQ 0 4617924092776493676)) 4607587742766480753 9 155 0 (-77) = true := by decide +kernel
theorem lookLog10_0 : chunkK (lowerLogQ 0 4617296702659331384) (lookI (idxLogQ 0 4617296702659331384)) 4607632778762754458 10 139 0 (-69) = true := by decide +kernel
theorem lookLog11_0 : chunkK (lowerLogQ 0 4616783036749666729) (lookI (idxLogQ 0 4616783036749666729)) 4607677814759028163 11 127 0 (-63) = true := by decide +kernel
theorem lookLog12_0 : chunkK (lowerLogQ 0 4616354662913603693) (lookI (idxLogQ 0 4616354662913603693)) 4607722850755301868 12 117 0 (-58) = true := by decide +kernel
end Go.Proofs.Ytgommnmmifgbgaa
end
