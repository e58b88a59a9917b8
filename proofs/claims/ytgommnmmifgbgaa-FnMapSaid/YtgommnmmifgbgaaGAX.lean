/-
  The logarithmic mapping: looks at the borders between indices. (Printed by gen_chk.py.)
-/
import Derived.Test.YtgommnmmifgbgaaGAK
section
namespace Go.Proofs.Ytgommnmmifgbgaa
set_option maxRecDepth 100000
set_option exponentiation.threshold 5000

theorem lookLog13_0 : chunkK (lowerLogQ 0 4615794176474467322) (lookI (idxLogQ 0 4615794176474467322)) 4607767886751575572 13 107 0 (-53) = true := by decide +kernel
theorem lookLog14_0 : chunkK (lowerLogQ 0 4615171741520823072) (lookI (idxLogQ 0 4615171741520823072)) 4607812922747849278 14 101 0 (-50) = true := by decide +kernel
theorem lookLog15_0 : chunkK (lowerLogQ 0 4614631781373749207) (lookI (idxLogQ 0 4614631781373749207)) 4607857958744122982 15 93 0 (-46) = true := by decide +kernel
theorem lookLog16_0 : chunkK (lowerLogQ 0 4614158829705195416) (lookI (idxLogQ 0 4614158829705195416)) 4607902994740396688 16 87 0 (-43) = true := by decide +kernel
theorem lookLog17_0 : chunkK (lowerLogQ 0 4613741059155014615) (lookI (idxLogQ 0 4613741059155014615)) 4607948030736670392 17 83 0 (-41) = true := by decide +kernel
theorem lookLog18_0 : chunkK (lowerLogQ 0 4613369270502780182) (lookI (idxLogQ 0 4613369270502780182)) 4607993066732944096 18 77 0 (-38) = true := by decide +kernel
theorem lookLog19_0 : chunkK (lowerLogQ 0 4613036201048197705) (lookI (idxLogQ 0 4613036201048197705)) 4608038102729217802 19 73 0 (-36) = true := by decide +kernel
theorem lookLog20_0 : chunkK (lowerLogQ 0 4612736040477087941) (lookI (idxLogQ 0 4612736040477087941)) 4608083138725491507 20 71 0 (-35) = true := by decide +kernel
theorem lookLog21_0 : chunkK (lowerLogQ 0 4612464085051067974) (lookI (idxLogQ 0 4612464085051067974)) 4608128174721765212 21 67 0 (-33) = true := by decide +kernel
theorem lookLog22_0 : chunkK (lowerLogQ 0 4612216486108828178) (lookI (idxLogQ 0 4612216486108828178)) 4608173210718038917 22 63 0 (-31) = true := by decide +kernel
theorem lookLog23_0 : chunkK (lowerLogQ 0 4611990064175458239) (lookI (idxLogQ 0 4611990064175458239)) 4608218246714312622 23 61 0 (-30) = true := by decide +kernel
end Go.Proofs.Ytgommnmmifgbgaa
end
