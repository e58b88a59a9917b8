/-
  The logarithmic mapping: looks at the borders between indices. (Printed by gen_chk.py.)
-/
import Derived.Test.YtgommnmmifgbgaaGAK
section
namespace Go.Proofs.Ytgommnmmifgbgaa
set_option maxRecDepth 100000
set_option exponentiation.threshold 5000

theorem lookLog24_0 : chunkK (lowerLogQ 0 4611782169544122916) (lookI (idxLogQ 0 4611782169544122916)) 4608263282710586328 24 59 0 (-29) = true := by decide +kernel
theorem lookLog25_0 : chunkK (lowerLogQ 0 4611495134208232510) (lookI (idxLogQ 0 4611495134208232510)) 4608308318706860032 25 57 0 (-28) = true := by decide +kernel
theorem lookLog26_0 : chunkK (lowerLogQ 0 4611140783377913010) (lookI (idxLogQ 0 4611140783377913010)) 4608353354703133737 26 53 0 (-26) = true := by decide +kernel
theorem lookLog27_0 : chunkK (lowerLogQ 0 4610812058799589437) (lookI (idxLogQ 0 4610812058799589437)) 4608398390699407442 27 51 0 (-25) = true := by decide +kernel
theorem lookLog28_0 : chunkK (lowerLogQ 0 4610506209299859922) (lookI (idxLogQ 0 4610506209299859922)) 4608443426695681147 28 51 0 (-25) = true := by decide +kernel
theorem lookLog29_0 : chunkK (lowerLogQ 0 4610220862892121518) (lookI (idxLogQ 0 4610220862892121518)) 4608488462691954852 29 49 0 (-24) = true := by decide +kernel
theorem lookLog30_0 : chunkK (lowerLogQ 0 4609953963567725617) (lookI (idxLogQ 0 4609953963567725617)) 4608533498688228558 30 47 0 (-23) = true := by decide +kernel
theorem lookLog31_0 : chunkK (lowerLogQ 0 4609703720320315841) (lookI (idxLogQ 0 4609703720320315841)) 4608578534684502262 31 45 0 (-22) = true := by decide +kernel
theorem lookLog32_0 : chunkK (lowerLogQ 0 4609468565727281664) (lookI (idxLogQ 0 4609468565727281664)) 4608623570680775967 32 43 0 (-21) = true := by decide +kernel
theorem lookLog33_0 : chunkK (lowerLogQ 0 4609247122060998742) (lookI (idxLogQ 0 4609247122060998742)) 4608668606677049672 33 43 0 (-21) = true := by decide +kernel
theorem lookLog34_0 : chunkK (lowerLogQ 0 4609038173379539422) (lookI (idxLogQ 0 4609038173379539422)) 4608713642673323377 34 41 0 (-20) = true := by decide +kernel
theorem lookLog35_0 : chunkK (lowerLogQ 0 4608840642400888357) (lookI (idxLogQ 0 4608840642400888357)) 4608758678669597082 35 39 0 (-19) = true := by decide +kernel
theorem lookLog36_0 : chunkK (lowerLogQ 0 4608653571230460981) (lookI (idxLogQ 0 4608653571230460981)) 4608803714665870786 36 39 0 (-19) = true := by decide +kernel
theorem lookLog37_0 : chunkK (lowerLogQ 0 4608476105212839592) (lookI (idxLogQ 0 4608476105212839592)) 4608848750662144492 37 37 0 (-18) = true := by decide +kernel
theorem lookLog38_0 : chunkK (lowerLogQ 0 4608307479332124942) (lookI (idxLogQ 0 4608307479332124942)) 4608893786658418196 38 37 0 (-18) = true := by decide +kernel
theorem lookLog39_0 : chunkK (lowerLogQ 0 4608147006703364017) (lookI (idxLogQ 0 4608147006703364017)) 4608938822654691902 39 35 0 (-17) = true := by decide +kernel
theorem lookLog40_0 : chunkK (lowerLogQ 0 4607994068789012533) (lookI (idxLogQ 0 4607994068789012533)) 4608983858650965606 40 35 0 (-17) = true := by decide +kernel
theorem lookLog41_0 : chunkK (lowerLogQ 0 4607848107045801954) (lookI (idxLogQ 0 4607848107045801954)) 4609028894647239311 41 33 0 (-16) = true := by decide +kernel
theorem lookLog42_0 : chunkK (lowerLogQ 0 4607708615763488624) (lookI (idxLogQ 0 4607708615763488624)) 4609073930643513016 42 33 0 (-16) = true := by decide +kernel
theorem lookLog43_0 : chunkK (lowerLogQ 0 4607575135901325166) (lookI (idxLogQ 0 4607575135901325166)) 4609118966639786721 43 33 0 (-16) = true := by decide +kernel
theorem lookLog44_0 : chunkK (lowerLogQ 0 4607447249763380839) (lookI (idxLogQ 0 4607447249763380839)) 4609164002636060426 44 31 0 (-15) = true := by decide +kernel
theorem lookLog45_0 : chunkK (lowerLogQ 0 4607324576382064951) (lookI (idxLogQ 0 4607324576382064951)) 4609209038632334131 45 31 0 (-15) = true := by decide +kernel
end Go.Proofs.Ytgommnmmifgbgaa
end
