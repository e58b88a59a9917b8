/-
  The logarithmic mapping: looks at the borders between indices. (Printed by gen_chk.py.)
-/
import Derived.Test.YtllaekopaglolaaGreatHAJ
section
namespace Go.Proofs.YtllaekopaglolaaGreat
set_option maxRecDepth 100000
set_option exponentiation.threshold 5000
theorem zPS:zAB (zAF 0 4619715007912295160) (zAL (zAM 0 4619715007912295160)) 4607497670773933342 7 199 0 (-99)=true:=by decide +kernel
theorem zPR:zAB (zAF 0 4618707855139670793) (zAL (zAM 0 4618707855139670793)) 4607542706770207048 8 175 0 (-87)=true:=by decide +kernel
theorem zPQ:zAB (zAF 0 4617924092776493676) (zAL (zAM 0 4617924092776493676)) 4607587742766480753 9 155 0 (-77)=true:=by decide +kernel
theorem zLc:zAB (zAF 0 4617296702659331384) (zAL (zAM 0 4617296702659331384)) 4607632778762754458 10 139 0 (-69)=true:=by decide +kernel
theorem zLb:zAB (zAF 0 4616783036749666729) (zAL (zAM 0 4616783036749666729)) 4607677814759028163 11 127 0 (-63)=true:=by decide +kernel
theorem zLa:zAB (zAF 0 4616354662913603693) (zAL (zAM 0 4616354662913603693)) 4607722850755301868 12 117 0 (-58)=true:=by decide +kernel
end Go.Proofs.YtllaekopaglolaaGreat
end
/-
  The logarithmic mapping: looks at the borders between indices. (Printed by gen_chk.py.)
-/
section
namespace Go.Proofs.YtllaekopaglolaaGreat
set_option maxRecDepth 100000
set_option exponentiation.threshold 5000
theorem zLZ:zAB (zAF 0 4615794176474467322) (zAL (zAM 0 4615794176474467322)) 4607767886751575572 13 107 0 (-53)=true:=by decide +kernel
theorem zLY:zAB (zAF 0 4615171741520823072) (zAL (zAM 0 4615171741520823072)) 4607812922747849278 14 101 0 (-50)=true:=by decide +kernel
theorem zLX:zAB (zAF 0 4614631781373749207) (zAL (zAM 0 4614631781373749207)) 4607857958744122982 15 93 0 (-46)=true:=by decide +kernel
theorem zLW:zAB (zAF 0 4614158829705195416) (zAL (zAM 0 4614158829705195416)) 4607902994740396688 16 87 0 (-43)=true:=by decide +kernel
theorem zLV:zAB (zAF 0 4613741059155014615) (zAL (zAM 0 4613741059155014615)) 4607948030736670392 17 83 0 (-41)=true:=by decide +kernel
theorem zLU:zAB (zAF 0 4613369270502780182) (zAL (zAM 0 4613369270502780182)) 4607993066732944096 18 77 0 (-38)=true:=by decide +kernel
theorem zLT:zAB (zAF 0 4613036201048197705) (zAL (zAM 0 4613036201048197705)) 4608038102729217802 19 73 0 (-36)=true:=by decide +kernel
theorem zLS:zAB (zAF 0 4612736040477087941) (zAL (zAM 0 4612736040477087941)) 4608083138725491507 20 71 0 (-35)=true:=by decide +kernel
theorem zLR:zAB (zAF 0 4612464085051067974) (zAL (zAM 0 4612464085051067974)) 4608128174721765212 21 67 0 (-33)=true:=by decide +kernel
theorem zLQ:zAB (zAF 0 4612216486108828178) (zAL (zAM 0 4612216486108828178)) 4608173210718038917 22 63 0 (-31)=true:=by decide +kernel
theorem zLP:zAB (zAF 0 4611990064175458239) (zAL (zAM 0 4611990064175458239)) 4608218246714312622 23 61 0 (-30)=true:=by decide +kernel
end Go.Proofs.YtllaekopaglolaaGreat
end
/-
  The logarithmic mapping: looks at the borders between indices. (Printed by gen_chk.py.)
-/
section
namespace Go.Proofs.YtllaekopaglolaaGreat
set_option maxRecDepth 100000
set_option exponentiation.threshold 5000
theorem zLO:zAB (zAF 0 4611782169544122916) (zAL (zAM 0 4611782169544122916)) 4608263282710586328 24 59 0 (-29)=true:=by decide +kernel
theorem zLN:zAB (zAF 0 4611495134208232510) (zAL (zAM 0 4611495134208232510)) 4608308318706860032 25 57 0 (-28)=true:=by decide +kernel
theorem zLM:zAB (zAF 0 4611140783377913010) (zAL (zAM 0 4611140783377913010)) 4608353354703133737 26 53 0 (-26)=true:=by decide +kernel
theorem zLL:zAB (zAF 0 4610812058799589437) (zAL (zAM 0 4610812058799589437)) 4608398390699407442 27 51 0 (-25)=true:=by decide +kernel
theorem zLK:zAB (zAF 0 4610506209299859922) (zAL (zAM 0 4610506209299859922)) 4608443426695681147 28 51 0 (-25)=true:=by decide +kernel
theorem zLJ:zAB (zAF 0 4610220862892121518) (zAL (zAM 0 4610220862892121518)) 4608488462691954852 29 49 0 (-24)=true:=by decide +kernel
theorem zLI:zAB (zAF 0 4609953963567725617) (zAL (zAM 0 4609953963567725617)) 4608533498688228558 30 47 0 (-23)=true:=by decide +kernel
theorem zLH:zAB (zAF 0 4609703720320315841) (zAL (zAM 0 4609703720320315841)) 4608578534684502262 31 45 0 (-22)=true:=by decide +kernel
theorem zLG:zAB (zAF 0 4609468565727281664) (zAL (zAM 0 4609468565727281664)) 4608623570680775967 32 43 0 (-21)=true:=by decide +kernel
theorem zLF:zAB (zAF 0 4609247122060998742) (zAL (zAM 0 4609247122060998742)) 4608668606677049672 33 43 0 (-21)=true:=by decide +kernel
theorem zLE:zAB (zAF 0 4609038173379539422) (zAL (zAM 0 4609038173379539422)) 4608713642673323377 34 41 0 (-20)=true:=by decide +kernel
theorem zLD:zAB (zAF 0 4608840642400888357) (zAL (zAM 0 4608840642400888357)) 4608758678669597082 35 39 0 (-19)=true:=by decide +kernel
theorem zLC:zAB (zAF 0 4608653571230460981) (zAL (zAM 0 4608653571230460981)) 4608803714665870786 36 39 0 (-19)=true:=by decide +kernel
theorem zLB:zAB (zAF 0 4608476105212839592) (zAL (zAM 0 4608476105212839592)) 4608848750662144492 37 37 0 (-18)=true:=by decide +kernel
theorem zLA:zAB (zAF 0 4608307479332124942) (zAL (zAM 0 4608307479332124942)) 4608893786658418196 38 37 0 (-18)=true:=by decide +kernel
theorem zK9:zAB (zAF 0 4608147006703364017) (zAL (zAM 0 4608147006703364017)) 4608938822654691902 39 35 0 (-17)=true:=by decide +kernel
theorem zK8:zAB (zAF 0 4607994068789012533) (zAL (zAM 0 4607994068789012533)) 4608983858650965606 40 35 0 (-17)=true:=by decide +kernel
theorem zK7:zAB (zAF 0 4607848107045801954) (zAL (zAM 0 4607848107045801954)) 4609028894647239311 41 33 0 (-16)=true:=by decide +kernel
theorem zK6:zAB (zAF 0 4607708615763488624) (zAL (zAM 0 4607708615763488624)) 4609073930643513016 42 33 0 (-16)=true:=by decide +kernel
theorem zK5:zAB (zAF 0 4607575135901325166) (zAL (zAM 0 4607575135901325166)) 4609118966639786721 43 33 0 (-16)=true:=by decide +kernel
theorem zK4:zAB (zAF 0 4607447249763380839) (zAL (zAM 0 4607447249763380839)) 4609164002636060426 44 31 0 (-15)=true:=by decide +kernel
theorem zK3:zAB (zAF 0 4607324576382064951) (zAL (zAM 0 4607324576382064951)) 4609209038632334131 45 31 0 (-15)=true:=by decide +kernel
end Go.Proofs.YtllaekopaglolaaGreat
end
/-
  The logarithmic mapping: looks at the borders between indices. (Printed by gen_chk.py.)
-/
section
namespace Go.Proofs.YtllaekopaglolaaGreat
set_option maxRecDepth 100000
set_option exponentiation.threshold 5000
theorem zK2:zAB (zAF 0 4607206767501909589) (zAL (zAM 0 4607206767501909589)) 4609254074628607836 46 29 0 (-14)=true:=by decide +kernel
theorem zK1:zAB (zAF 0 4607004589348023346) (zAL (zAM 0 4607004589348023346)) 4609299110624881541 47 29 0 (-14)=true:=by decide +kernel
theorem zK0:zAB (zAF 0 4606786567573007331) (zAL (zAM 0 4606786567573007331)) 4609344146621155246 48 29 0 (-14)=true:=by decide +kernel
theorem zKz:zAB (zAF 0 4606576511936812258) (zAL (zAM 0 4606576511936812258)) 4609389182617428951 49 27 0 (-13)=true:=by decide +kernel
theorem zKy:zAB (zAF 0 4606373925628985684) (zAL (zAM 0 4606373925628985684)) 4609434218613702656 50 27 0 (-13)=true:=by decide +kernel
end Go.Proofs.YtllaekopaglolaaGreat
end
