/-
  The linearly interpolated mapping: looks at the borders between indices. (Printed by gen_chk.py.)
-/
import Derived.Test.YtllaekopaglolaaGreatGAJ
import Derived.Test.YtllaekopaglolaaGreatGBS
import Derived.Test.YtllaekopaglolaaGreatGBN
section
namespace Go.Proofs.YtllaekopaglolaaGreat
set_option maxRecDepth 100000
set_option exponentiation.threshold 5000
theorem lookLin15_0:chunkK (lowerLinQ 4614631781373749204 4614631781373749204) (lookI (idxLinQ 4614631781373749204 4614631781373749204)) 4607857958744122982 15 134 0 (-63)=true:=by decide +kernel
theorem lookLin16_0:chunkK (lowerLinQ 4614158829705195414 4614158829705195414) (lookI (idxLinQ 4614158829705195414 4614158829705195414)) 4607902994740396688 16 125 0 (-59)=true:=by decide +kernel
theorem lookLin17_0:chunkK (lowerLinQ 4613741059155014611 4613741059155014611) (lookI (idxLinQ 4613741059155014611 4613741059155014611)) 4607948030736670392 17 118 0 (-56)=true:=by decide +kernel
theorem lookLin18_0:chunkK (lowerLinQ 4613369270502780181 4613369270502780181) (lookI (idxLinQ 4613369270502780181 4613369270502780181)) 4607993066732944097 18 112 0 (-53)=true:=by decide +kernel
theorem lookLin19_0:chunkK (lowerLinQ 4613036201048197704 4613036201048197704) (lookI (idxLinQ 4613036201048197704 4613036201048197704)) 4608038102729217802 19 106 0 (-50)=true:=by decide +kernel
theorem lookLin20_0:chunkK (lowerLinQ 4612736040477087940 4612736040477087940) (lookI (idxLinQ 4612736040477087940 4612736040477087940)) 4608083138725491507 20 100 0 (-47)=true:=by decide +kernel
theorem lookLin21_0:chunkK (lowerLinQ 4612464085051067976 4612464085051067976) (lookI (idxLinQ 4612464085051067976 4612464085051067976)) 4608128174721765212 21 96 0 (-45)=true:=by decide +kernel
theorem lookLin22_0:chunkK (lowerLinQ 4612216486108828178 4612216486108828178) (lookI (idxLinQ 4612216486108828178 4612216486108828178)) 4608173210718038917 22 91 0 (-43)=true:=by decide +kernel
theorem lookLin23_0:chunkK (lowerLinQ 4611990064175458239 4611990064175458239) (lookI (idxLinQ 4611990064175458239 4611990064175458239)) 4608218246714312622 23 87 0 (-41)=true:=by decide +kernel
theorem lookLin24_0:chunkK (lowerLinQ 4611782169544122917 4611782169544122917) (lookI (idxLinQ 4611782169544122917 4611782169544122917)) 4608263282710586326 24 83 0 (-39)=true:=by decide +kernel
theorem lookLin25_0:chunkK (lowerLinQ 4611495134208232514 4611495134208232514) (lookI (idxLinQ 4611495134208232514 4611495134208232514)) 4608308318706860031 25 80 0 (-38)=true:=by decide +kernel
theorem lookLin26_0:chunkK (lowerLinQ 4611140783377913012 4611140783377913012) (lookI (idxLinQ 4611140783377913012 4611140783377913012)) 4608353354703133737 26 77 0 (-36)=true:=by decide +kernel
theorem lookLin27_0:chunkK (lowerLinQ 4610812058799589437 4610812058799589437) (lookI (idxLinQ 4610812058799589437 4610812058799589437)) 4608398390699407442 27 74 0 (-35)=true:=by decide +kernel
theorem lookLin28_0:chunkK (lowerLinQ 4610506209299859920 4610506209299859920) (lookI (idxLinQ 4610506209299859920 4610506209299859920)) 4608443426695681148 28 71 0 (-33)=true:=by decide +kernel
theorem lookLin29_0:chunkK (lowerLinQ 4610220862892121517 4610220862892121517) (lookI (idxLinQ 4610220862892121517 4610220862892121517)) 4608488462691954852 29 69 0 (-32)=true:=by decide +kernel
theorem lookLin30_0:chunkK (lowerLinQ 4609953963567725618 4609953963567725618) (lookI (idxLinQ 4609953963567725618 4609953963567725618)) 4608533498688228557 30 66 0 (-31)=true:=by decide +kernel
theorem lookLin31_0:chunkK (lowerLinQ 4609703720320315842 4609703720320315842) (lookI (idxLinQ 4609703720320315842 4609703720320315842)) 4608578534684502262 31 64 0 (-30)=true:=by decide +kernel
theorem lookLin32_0:chunkK (lowerLinQ 4609468565727281664 4609468565727281664) (lookI (idxLinQ 4609468565727281664 4609468565727281664)) 4608623570680775967 32 62 0 (-29)=true:=by decide +kernel
theorem lookLin33_0:chunkK (lowerLinQ 4609247122060998742 4609247122060998742) (lookI (idxLinQ 4609247122060998742 4609247122060998742)) 4608668606677049672 33 60 0 (-28)=true:=by decide +kernel
theorem lookLin34_0:chunkK (lowerLinQ 4609038173379539423 4609038173379539423) (lookI (idxLinQ 4609038173379539423 4609038173379539423)) 4608713642673323377 34 58 0 (-27)=true:=by decide +kernel
theorem lookLin35_0:chunkK (lowerLinQ 4608840642400888357 4608840642400888357) (lookI (idxLinQ 4608840642400888357 4608840642400888357)) 4608758678669597082 35 56 0 (-26)=true:=by decide +kernel
theorem lookLin36_0:chunkK (lowerLinQ 4608653571230460983 4608653571230460983) (lookI (idxLinQ 4608653571230460983 4608653571230460983)) 4608803714665870786 36 55 0 (-26)=true:=by decide +kernel
theorem lookLin37_0:chunkK (lowerLinQ 4608476105212839593 4608476105212839593) (lookI (idxLinQ 4608476105212839593 4608476105212839593)) 4608848750662144492 37 53 0 (-25)=true:=by decide +kernel
theorem lookLin38_0:chunkK (lowerLinQ 4608307479332124942 4608307479332124942) (lookI (idxLinQ 4608307479332124942 4608307479332124942)) 4608893786658418196 38 52 0 (-24)=true:=by decide +kernel
theorem lookLin39_0:chunkK (lowerLinQ 4608147006703364017 4608147006703364017) (lookI (idxLinQ 4608147006703364017 4608147006703364017)) 4608938822654691902 39 51 0 (-24)=true:=by decide +kernel
theorem lookLin40_0:chunkK (lowerLinQ 4607994068789012533 4607994068789012533) (lookI (idxLinQ 4607994068789012533 4607994068789012533)) 4608983858650965607 40 49 0 (-23)=true:=by decide +kernel
theorem lookLin41_0:chunkK (lowerLinQ 4607848107045801953 4607848107045801953) (lookI (idxLinQ 4607848107045801953 4607848107045801953)) 4609028894647239311 41 47 0 (-22)=true:=by decide +kernel
theorem lookLin42_0:chunkK (lowerLinQ 4607708615763488624 4607708615763488624) (lookI (idxLinQ 4607708615763488624 4607708615763488624)) 4609073930643513016 42 47 0 (-22)=true:=by decide +kernel
theorem lookLin43_0:chunkK (lowerLinQ 4607575135901325166 4607575135901325166) (lookI (idxLinQ 4607575135901325166 4607575135901325166)) 4609118966639786722 43 45 0 (-21)=true:=by decide +kernel
theorem lookLin44_0:chunkK (lowerLinQ 4607447249763380840 4607447249763380840) (lookI (idxLinQ 4607447249763380840 4607447249763380840)) 4609164002636060426 44 45 0 (-21)=true:=by decide +kernel
theorem lookLin45_0:chunkK (lowerLinQ 4607324576382064951 4607324576382064951) (lookI (idxLinQ 4607324576382064951 4607324576382064951)) 4609209038632334131 45 43 0 (-20)=true:=by decide +kernel
theorem lookLin46_0:chunkK (lowerLinQ 4607206767501909588 4607206767501909588) (lookI (idxLinQ 4607206767501909588 4607206767501909588)) 4609254074628607836 46 43 0 (-20)=true:=by decide +kernel
theorem lookLin47_0:chunkK (lowerLinQ 4607004589348023344 4607004589348023344) (lookI (idxLinQ 4607004589348023344 4607004589348023344)) 4609299110624881541 47 41 0 (-19)=true:=by decide +kernel
theorem lookLin48_0:chunkK (lowerLinQ 4606786567573007331 4606786567573007331) (lookI (idxLinQ 4606786567573007331 4606786567573007331)) 4609344146621155246 48 40 0 (-19)=true:=by decide +kernel
theorem lookLin49_0:chunkK (lowerLinQ 4606576511936812257 4606576511936812257) (lookI (idxLinQ 4606576511936812257 4606576511936812257)) 4609389182617428951 49 39 0 (-18)=true:=by decide +kernel
theorem lookLin50_0:chunkK (lowerLinQ 4606373925628985682 4606373925628985682) (lookI (idxLinQ 4606373925628985682 4606373925628985682)) 4609434218613702656 50 39 0 (-18)=true:=by decide +kernel
end Go.Proofs.YtllaekopaglolaaGreat
end
/-
  The linearly interpolated mapping: what the looks tell,for each hundredth. (Printed by gen_chk.py.)
-/
section
namespace Go.Proofs.YtllaekopaglolaaGreat
set_option maxRecDepth 100000
set_option exponentiation.threshold 5000
theorem factLin1 (i:Int) (h1:-948≤i) (h2:i≤1046):FactK (lowerLinQ 4632233457158529861 4632233457158529861) (lookI (idxLinQ 4632233457158529861 4632233457158529861)) 4607227454796291113 1 i:=by
  by_cases c0:i < -698
  · have:=chunkK_is lookLin1_0 (i - (-948)).toNat (by omega)
    rwa [show (-948:Int)+((i - (-948)).toNat:Int)=i from by omega] at this
  by_cases c1:i < -448
  · have:=chunkK_is lookLin1_1 (i - (-698)).toNat (by omega)
    rwa [show (-698:Int)+((i - (-698)).toNat:Int)=i from by omega] at this
  by_cases c2:i < -198
  · have:=chunkK_is lookLin1_2 (i - (-448)).toNat (by omega)
    rwa [show (-448:Int)+((i - (-448)).toNat:Int)=i from by omega] at this
  by_cases c3:i<52
  · have:=chunkK_is lookLin1_3 (i - (-198)).toNat (by omega)
    rwa [show (-198:Int)+((i - (-198)).toNat:Int)=i from by omega] at this
  by_cases c4:i<302
  · have:=chunkK_is lookLin1_4 (i - (52)).toNat (by omega)
    rwa [show (52:Int)+((i - (52)).toNat:Int)=i from by omega] at this
  by_cases c5:i<552
  · have:=chunkK_is lookLin1_5 (i - (302)).toNat (by omega)
    rwa [show (302:Int)+((i - (302)).toNat:Int)=i from by omega] at this
  by_cases c6:i<802
  · have:=chunkK_is lookLin1_6 (i - (552)).toNat (by omega)
    rwa [show (552:Int)+((i - (552)).toNat:Int)=i from by omega] at this
  have:=chunkK_is lookLin1_7 (i - (802)).toNat (by omega)
  rwa [show (802:Int)+((i - (802)).toNat:Int)=i from by omega] at this
theorem factLin2 (i:Int) (h1:-474≤i) (h2:i≤523):FactK (lowerLinQ 4627729153749872002 4627729153749872002) (lookI (idxLinQ 4627729153749872002 4627729153749872002)) 4607272490792564817 2 i:=by
  by_cases c0:i < -224
  · have:=chunkK_is lookLin2_0 (i - (-474)).toNat (by omega)
    rwa [show (-474:Int)+((i - (-474)).toNat:Int)=i from by omega] at this
  by_cases c1:i<26
  · have:=chunkK_is lookLin2_1 (i - (-224)).toNat (by omega)
    rwa [show (-224:Int)+((i - (-224)).toNat:Int)=i from by omega] at this
  by_cases c2:i<276
  · have:=chunkK_is lookLin2_2 (i - (26)).toNat (by omega)
    rwa [show (26:Int)+((i - (26)).toNat:Int)=i from by omega] at this
  have:=chunkK_is lookLin2_3 (i - (276)).toNat (by omega)
  rwa [show (276:Int)+((i - (276)).toNat:Int)=i from by omega] at this
theorem factLin3 (i:Int) (h1:-316≤i) (h2:i≤349):FactK (lowerLinQ 4625383059581160311 4625383059581160311) (lookI (idxLinQ 4625383059581160311 4625383059581160311)) 4607317526788838522 3 i:=by
  by_cases c0:i < -66
  · have:=chunkK_is lookLin3_0 (i - (-316)).toNat (by omega)
    rwa [show (-316:Int)+((i - (-316)).toNat:Int)=i from by omega] at this
  by_cases c1:i<184
  · have:=chunkK_is lookLin3_1 (i - (-66)).toNat (by omega)
    rwa [show (-66:Int)+((i - (-66)).toNat:Int)=i from by omega] at this
  have:=chunkK_is lookLin3_2 (i - (184)).toNat (by omega)
  rwa [show (184:Int)+((i - (184)).toNat:Int)=i from by omega] at this
theorem factLin4 (i:Int) (h1:-237≤i) (h2:i≤262):FactK (lowerLinQ 4623222737870212012 4623222737870212012) (lookI (idxLinQ 4623222737870212012 4623222737870212012)) 4607362562785112229 4 i:=by
  by_cases c0:i<13
  · have:=chunkK_is lookLin4_0 (i - (-237)).toNat (by omega)
    rwa [show (-237:Int)+((i - (-237)).toNat:Int)=i from by omega] at this
  have:=chunkK_is lookLin4_1 (i - (13)).toNat (by omega)
  rwa [show (13:Int)+((i - (13)).toNat:Int)=i from by omega] at this
theorem factLin5 (i:Int) (h1:-190≤i) (h2:i≤209):FactK (lowerLinQ 4621814423207757742 4621814423207757742) (lookI (idxLinQ 4621814423207757742 4621814423207757742)) 4607407598781385934 5 i:=by
  by_cases c0:i<60
  · have:=chunkK_is lookLin5_0 (i - (-190)).toNat (by omega)
    rwa [show (-190:Int)+((i - (-190)).toNat:Int)=i from by omega] at this
  have:=chunkK_is lookLin5_1 (i - (60)).toNat (by omega)
  rwa [show (60:Int)+((i - (60)).toNat:Int)=i from by omega] at this
theorem factLin6 (i:Int) (h1:-158≤i) (h2:i≤175):FactK (lowerLinQ 4620875232752534042 4620875232752534042) (lookI (idxLinQ 4620875232752534042 4620875232752534042)) 4607452634777659638 6 i:=by
  by_cases c0:i<92
  · have:=chunkK_is lookLin6_0 (i - (-158)).toNat (by omega)
    rwa [show (-158:Int)+((i - (-158)).toNat:Int)=i from by omega] at this
  have:=chunkK_is lookLin6_1 (i - (92)).toNat (by omega)
  rwa [show (92:Int)+((i - (92)).toNat:Int)=i from by omega] at this
theorem factLin7 (i:Int) (h1:-136≤i) (h2:i≤150):FactK (lowerLinQ 4619715007912295168 4619715007912295168) (lookI (idxLinQ 4619715007912295168 4619715007912295168)) 4607497670773933342 7 i:=by
  by_cases c0:i<114
  · have:=chunkK_is lookLin7_0 (i - (-136)).toNat (by omega)
    rwa [show (-136:Int)+((i - (-136)).toNat:Int)=i from by omega] at this
  have:=chunkK_is lookLin7_1 (i - (114)).toNat (by omega)
  rwa [show (114:Int)+((i - (114)).toNat:Int)=i from by omega] at this
theorem factLin8 (i:Int) (h1:-119≤i) (h2:i≤131):FactK (lowerLinQ 4618707855139670799 4618707855139670799) (lookI (idxLinQ 4618707855139670799 4618707855139670799)) 4607542706770207048 8 i:=by
  by_cases c0:i<131
  · have:=chunkK_is lookLin8_0 (i - (-119)).toNat (by omega)
    rwa [show (-119:Int)+((i - (-119)).toNat:Int)=i from by omega] at this
  have:=chunkK_is lookLin8_1 (i - (131)).toNat (by omega)
  rwa [show (131:Int)+((i - (131)).toNat:Int)=i from by omega] at this
theorem factLin9 (i:Int) (h1:-106≤i) (h2:i≤116):FactK (lowerLinQ 4617924092776493673 4617924092776493673) (lookI (idxLinQ 4617924092776493673 4617924092776493673)) 4607587742766480753 9 i:=by
  have:=chunkK_is lookLin9_0 (i - (-106)).toNat (by omega)
  rwa [show (-106:Int)+((i - (-106)).toNat:Int)=i from by omega] at this
theorem factLin10 (i:Int) (h1:-95≤i) (h2:i≤105):FactK (lowerLinQ 4617296702659331388 4617296702659331388) (lookI (idxLinQ 4617296702659331388 4617296702659331388)) 4607632778762754458 10 i:=by
  have:=chunkK_is lookLin10_0 (i - (-95)).toNat (by omega)
  rwa [show (-95:Int)+((i - (-95)).toNat:Int)=i from by omega] at this
theorem factLin11 (i:Int) (h1:-86≤i) (h2:i≤95):FactK (lowerLinQ 4616783036749666730 4616783036749666730) (lookI (idxLinQ 4616783036749666730 4616783036749666730)) 4607677814759028163 11 i:=by
  have:=chunkK_is lookLin11_0 (i - (-86)).toNat (by omega)
  rwa [show (-86:Int)+((i - (-86)).toNat:Int)=i from by omega] at this
theorem factLin12 (i:Int) (h1:-79≤i) (h2:i≤87):FactK (lowerLinQ 4616354662913603694 4616354662913603694) (lookI (idxLinQ 4616354662913603694 4616354662913603694)) 4607722850755301868 12 i:=by
  have:=chunkK_is lookLin12_0 (i - (-79)).toNat (by omega)
  rwa [show (-79:Int)+((i - (-79)).toNat:Int)=i from by omega] at this
theorem factLin13 (i:Int) (h1:-73≤i) (h2:i≤80):FactK (lowerLinQ 4615794176474467320 4615794176474467320) (lookI (idxLinQ 4615794176474467320 4615794176474467320)) 4607767886751575572 13 i:=by
  have:=chunkK_is lookLin13_0 (i - (-73)).toNat (by omega)
  rwa [show (-73:Int)+((i - (-73)).toNat:Int)=i from by omega] at this
theorem factLin14 (i:Int) (h1:-68≤i) (h2:i≤75):FactK (lowerLinQ 4615171741520823070 4615171741520823070) (lookI (idxLinQ 4615171741520823070 4615171741520823070)) 4607812922747849278 14 i:=by
  have:=chunkK_is lookLin14_0 (i - (-68)).toNat (by omega)
  rwa [show (-68:Int)+((i - (-68)).toNat:Int)=i from by omega] at this
theorem factLin15 (i:Int) (h1:-63≤i) (h2:i≤70):FactK (lowerLinQ 4614631781373749204 4614631781373749204) (lookI (idxLinQ 4614631781373749204 4614631781373749204)) 4607857958744122982 15 i:=by
  have:=chunkK_is lookLin15_0 (i - (-63)).toNat (by omega)
  rwa [show (-63:Int)+((i - (-63)).toNat:Int)=i from by omega] at this
theorem factLin16 (i:Int) (h1:-59≤i) (h2:i≤65):FactK (lowerLinQ 4614158829705195414 4614158829705195414) (lookI (idxLinQ 4614158829705195414 4614158829705195414)) 4607902994740396688 16 i:=by
  have:=chunkK_is lookLin16_0 (i - (-59)).toNat (by omega)
  rwa [show (-59:Int)+((i - (-59)).toNat:Int)=i from by omega] at this
theorem factLin17 (i:Int) (h1:-56≤i) (h2:i≤61):FactK (lowerLinQ 4613741059155014611 4613741059155014611) (lookI (idxLinQ 4613741059155014611 4613741059155014611)) 4607948030736670392 17 i:=by
  have:=chunkK_is lookLin17_0 (i - (-56)).toNat (by omega)
  rwa [show (-56:Int)+((i - (-56)).toNat:Int)=i from by omega] at this
theorem factLin18 (i:Int) (h1:-53≤i) (h2:i≤58):FactK (lowerLinQ 4613369270502780181 4613369270502780181) (lookI (idxLinQ 4613369270502780181 4613369270502780181)) 4607993066732944097 18 i:=by
  have:=chunkK_is lookLin18_0 (i - (-53)).toNat (by omega)
  rwa [show (-53:Int)+((i - (-53)).toNat:Int)=i from by omega] at this
theorem factLin19 (i:Int) (h1:-50≤i) (h2:i≤55):FactK (lowerLinQ 4613036201048197704 4613036201048197704) (lookI (idxLinQ 4613036201048197704 4613036201048197704)) 4608038102729217802 19 i:=by
  have:=chunkK_is lookLin19_0 (i - (-50)).toNat (by omega)
  rwa [show (-50:Int)+((i - (-50)).toNat:Int)=i from by omega] at this
theorem factLin20 (i:Int) (h1:-47≤i) (h2:i≤52):FactK (lowerLinQ 4612736040477087940 4612736040477087940) (lookI (idxLinQ 4612736040477087940 4612736040477087940)) 4608083138725491507 20 i:=by
  have:=chunkK_is lookLin20_0 (i - (-47)).toNat (by omega)
  rwa [show (-47:Int)+((i - (-47)).toNat:Int)=i from by omega] at this
theorem factLin21 (i:Int) (h1:-45≤i) (h2:i≤50):FactK (lowerLinQ 4612464085051067976 4612464085051067976) (lookI (idxLinQ 4612464085051067976 4612464085051067976)) 4608128174721765212 21 i:=by
  have:=chunkK_is lookLin21_0 (i - (-45)).toNat (by omega)
  rwa [show (-45:Int)+((i - (-45)).toNat:Int)=i from by omega] at this
theorem factLin22 (i:Int) (h1:-43≤i) (h2:i≤47):FactK (lowerLinQ 4612216486108828178 4612216486108828178) (lookI (idxLinQ 4612216486108828178 4612216486108828178)) 4608173210718038917 22 i:=by
  have:=chunkK_is lookLin22_0 (i - (-43)).toNat (by omega)
  rwa [show (-43:Int)+((i - (-43)).toNat:Int)=i from by omega] at this
theorem factLin23 (i:Int) (h1:-41≤i) (h2:i≤45):FactK (lowerLinQ 4611990064175458239 4611990064175458239) (lookI (idxLinQ 4611990064175458239 4611990064175458239)) 4608218246714312622 23 i:=by
  have:=chunkK_is lookLin23_0 (i - (-41)).toNat (by omega)
  rwa [show (-41:Int)+((i - (-41)).toNat:Int)=i from by omega] at this
theorem factLin24 (i:Int) (h1:-39≤i) (h2:i≤43):FactK (lowerLinQ 4611782169544122917 4611782169544122917) (lookI (idxLinQ 4611782169544122917 4611782169544122917)) 4608263282710586326 24 i:=by
  have:=chunkK_is lookLin24_0 (i - (-39)).toNat (by omega)
  rwa [show (-39:Int)+((i - (-39)).toNat:Int)=i from by omega] at this
theorem factLin25 (i:Int) (h1:-38≤i) (h2:i≤41):FactK (lowerLinQ 4611495134208232514 4611495134208232514) (lookI (idxLinQ 4611495134208232514 4611495134208232514)) 4608308318706860031 25 i:=by
  have:=chunkK_is lookLin25_0 (i - (-38)).toNat (by omega)
  rwa [show (-38:Int)+((i - (-38)).toNat:Int)=i from by omega] at this
theorem factLin26 (i:Int) (h1:-36≤i) (h2:i≤40):FactK (lowerLinQ 4611140783377913012 4611140783377913012) (lookI (idxLinQ 4611140783377913012 4611140783377913012)) 4608353354703133737 26 i:=by
  have:=chunkK_is lookLin26_0 (i - (-36)).toNat (by omega)
  rwa [show (-36:Int)+((i - (-36)).toNat:Int)=i from by omega] at this
theorem factLin27 (i:Int) (h1:-35≤i) (h2:i≤38):FactK (lowerLinQ 4610812058799589437 4610812058799589437) (lookI (idxLinQ 4610812058799589437 4610812058799589437)) 4608398390699407442 27 i:=by
  have:=chunkK_is lookLin27_0 (i - (-35)).toNat (by omega)
  rwa [show (-35:Int)+((i - (-35)).toNat:Int)=i from by omega] at this
theorem factLin28 (i:Int) (h1:-33≤i) (h2:i≤37):FactK (lowerLinQ 4610506209299859920 4610506209299859920) (lookI (idxLinQ 4610506209299859920 4610506209299859920)) 4608443426695681148 28 i:=by
  have:=chunkK_is lookLin28_0 (i - (-33)).toNat (by omega)
  rwa [show (-33:Int)+((i - (-33)).toNat:Int)=i from by omega] at this
theorem factLin29 (i:Int) (h1:-32≤i) (h2:i≤36):FactK (lowerLinQ 4610220862892121517 4610220862892121517) (lookI (idxLinQ 4610220862892121517 4610220862892121517)) 4608488462691954852 29 i:=by
  have:=chunkK_is lookLin29_0 (i - (-32)).toNat (by omega)
  rwa [show (-32:Int)+((i - (-32)).toNat:Int)=i from by omega] at this
theorem factLin30 (i:Int) (h1:-31≤i) (h2:i≤34):FactK (lowerLinQ 4609953963567725618 4609953963567725618) (lookI (idxLinQ 4609953963567725618 4609953963567725618)) 4608533498688228557 30 i:=by
  have:=chunkK_is lookLin30_0 (i - (-31)).toNat (by omega)
  rwa [show (-31:Int)+((i - (-31)).toNat:Int)=i from by omega] at this
theorem factLin31 (i:Int) (h1:-30≤i) (h2:i≤33):FactK (lowerLinQ 4609703720320315842 4609703720320315842) (lookI (idxLinQ 4609703720320315842 4609703720320315842)) 4608578534684502262 31 i:=by
  have:=chunkK_is lookLin31_0 (i - (-30)).toNat (by omega)
  rwa [show (-30:Int)+((i - (-30)).toNat:Int)=i from by omega] at this
theorem factLin32 (i:Int) (h1:-29≤i) (h2:i≤32):FactK (lowerLinQ 4609468565727281664 4609468565727281664) (lookI (idxLinQ 4609468565727281664 4609468565727281664)) 4608623570680775967 32 i:=by
  have:=chunkK_is lookLin32_0 (i - (-29)).toNat (by omega)
  rwa [show (-29:Int)+((i - (-29)).toNat:Int)=i from by omega] at this
theorem factLin33 (i:Int) (h1:-28≤i) (h2:i≤31):FactK (lowerLinQ 4609247122060998742 4609247122060998742) (lookI (idxLinQ 4609247122060998742 4609247122060998742)) 4608668606677049672 33 i:=by
  have:=chunkK_is lookLin33_0 (i - (-28)).toNat (by omega)
  rwa [show (-28:Int)+((i - (-28)).toNat:Int)=i from by omega] at this
theorem factLin34 (i:Int) (h1:-27≤i) (h2:i≤30):FactK (lowerLinQ 4609038173379539423 4609038173379539423) (lookI (idxLinQ 4609038173379539423 4609038173379539423)) 4608713642673323377 34 i:=by
  have:=chunkK_is lookLin34_0 (i - (-27)).toNat (by omega)
  rwa [show (-27:Int)+((i - (-27)).toNat:Int)=i from by omega] at this
theorem factLin35 (i:Int) (h1:-26≤i) (h2:i≤29):FactK (lowerLinQ 4608840642400888357 4608840642400888357) (lookI (idxLinQ 4608840642400888357 4608840642400888357)) 4608758678669597082 35 i:=by
  have:=chunkK_is lookLin35_0 (i - (-26)).toNat (by omega)
  rwa [show (-26:Int)+((i - (-26)).toNat:Int)=i from by omega] at this
theorem factLin36 (i:Int) (h1:-26≤i) (h2:i≤28):FactK (lowerLinQ 4608653571230460983 4608653571230460983) (lookI (idxLinQ 4608653571230460983 4608653571230460983)) 4608803714665870786 36 i:=by
  have:=chunkK_is lookLin36_0 (i - (-26)).toNat (by omega)
  rwa [show (-26:Int)+((i - (-26)).toNat:Int)=i from by omega] at this
theorem factLin37 (i:Int) (h1:-25≤i) (h2:i≤27):FactK (lowerLinQ 4608476105212839593 4608476105212839593) (lookI (idxLinQ 4608476105212839593 4608476105212839593)) 4608848750662144492 37 i:=by
  have:=chunkK_is lookLin37_0 (i - (-25)).toNat (by omega)
  rwa [show (-25:Int)+((i - (-25)).toNat:Int)=i from by omega] at this
theorem factLin38 (i:Int) (h1:-24≤i) (h2:i≤27):FactK (lowerLinQ 4608307479332124942 4608307479332124942) (lookI (idxLinQ 4608307479332124942 4608307479332124942)) 4608893786658418196 38 i:=by
  have:=chunkK_is lookLin38_0 (i - (-24)).toNat (by omega)
  rwa [show (-24:Int)+((i - (-24)).toNat:Int)=i from by omega] at this
theorem factLin39 (i:Int) (h1:-24≤i) (h2:i≤26):FactK (lowerLinQ 4608147006703364017 4608147006703364017) (lookI (idxLinQ 4608147006703364017 4608147006703364017)) 4608938822654691902 39 i:=by
  have:=chunkK_is lookLin39_0 (i - (-24)).toNat (by omega)
  rwa [show (-24:Int)+((i - (-24)).toNat:Int)=i from by omega] at this
theorem factLin40 (i:Int) (h1:-23≤i) (h2:i≤25):FactK (lowerLinQ 4607994068789012533 4607994068789012533) (lookI (idxLinQ 4607994068789012533 4607994068789012533)) 4608983858650965607 40 i:=by
  have:=chunkK_is lookLin40_0 (i - (-23)).toNat (by omega)
  rwa [show (-23:Int)+((i - (-23)).toNat:Int)=i from by omega] at this
theorem factLin41 (i:Int) (h1:-22≤i) (h2:i≤24):FactK (lowerLinQ 4607848107045801953 4607848107045801953) (lookI (idxLinQ 4607848107045801953 4607848107045801953)) 4609028894647239311 41 i:=by
  have:=chunkK_is lookLin41_0 (i - (-22)).toNat (by omega)
  rwa [show (-22:Int)+((i - (-22)).toNat:Int)=i from by omega] at this
theorem factLin42 (i:Int) (h1:-22≤i) (h2:i≤24):FactK (lowerLinQ 4607708615763488624 4607708615763488624) (lookI (idxLinQ 4607708615763488624 4607708615763488624)) 4609073930643513016 42 i:=by
  have:=chunkK_is lookLin42_0 (i - (-22)).toNat (by omega)
  rwa [show (-22:Int)+((i - (-22)).toNat:Int)=i from by omega] at this
theorem factLin43 (i:Int) (h1:-21≤i) (h2:i≤23):FactK (lowerLinQ 4607575135901325166 4607575135901325166) (lookI (idxLinQ 4607575135901325166 4607575135901325166)) 4609118966639786722 43 i:=by
  have:=chunkK_is lookLin43_0 (i - (-21)).toNat (by omega)
  rwa [show (-21:Int)+((i - (-21)).toNat:Int)=i from by omega] at this
theorem factLin44 (i:Int) (h1:-21≤i) (h2:i≤23):FactK (lowerLinQ 4607447249763380840 4607447249763380840) (lookI (idxLinQ 4607447249763380840 4607447249763380840)) 4609164002636060426 44 i:=by
  have:=chunkK_is lookLin44_0 (i - (-21)).toNat (by omega)
  rwa [show (-21:Int)+((i - (-21)).toNat:Int)=i from by omega] at this
theorem factLin45 (i:Int) (h1:-20≤i) (h2:i≤22):FactK (lowerLinQ 4607324576382064951 4607324576382064951) (lookI (idxLinQ 4607324576382064951 4607324576382064951)) 4609209038632334131 45 i:=by
  have:=chunkK_is lookLin45_0 (i - (-20)).toNat (by omega)
  rwa [show (-20:Int)+((i - (-20)).toNat:Int)=i from by omega] at this
theorem factLin46 (i:Int) (h1:-20≤i) (h2:i≤22):FactK (lowerLinQ 4607206767501909588 4607206767501909588) (lookI (idxLinQ 4607206767501909588 4607206767501909588)) 4609254074628607836 46 i:=by
  have:=chunkK_is lookLin46_0 (i - (-20)).toNat (by omega)
  rwa [show (-20:Int)+((i - (-20)).toNat:Int)=i from by omega] at this
theorem factLin47 (i:Int) (h1:-19≤i) (h2:i≤21):FactK (lowerLinQ 4607004589348023344 4607004589348023344) (lookI (idxLinQ 4607004589348023344 4607004589348023344)) 4609299110624881541 47 i:=by
  have:=chunkK_is lookLin47_0 (i - (-19)).toNat (by omega)
  rwa [show (-19:Int)+((i - (-19)).toNat:Int)=i from by omega] at this
theorem factLin48 (i:Int) (h1:-19≤i) (h2:i≤20):FactK (lowerLinQ 4606786567573007331 4606786567573007331) (lookI (idxLinQ 4606786567573007331 4606786567573007331)) 4609344146621155246 48 i:=by
  have:=chunkK_is lookLin48_0 (i - (-19)).toNat (by omega)
  rwa [show (-19:Int)+((i - (-19)).toNat:Int)=i from by omega] at this
theorem factLin49 (i:Int) (h1:-18≤i) (h2:i≤20):FactK (lowerLinQ 4606576511936812257 4606576511936812257) (lookI (idxLinQ 4606576511936812257 4606576511936812257)) 4609389182617428951 49 i:=by
  have:=chunkK_is lookLin49_0 (i - (-18)).toNat (by omega)
  rwa [show (-18:Int)+((i - (-18)).toNat:Int)=i from by omega] at this
theorem factLin50 (i:Int) (h1:-18≤i) (h2:i≤20):FactK (lowerLinQ 4606373925628985682 4606373925628985682) (lookI (idxLinQ 4606373925628985682 4606373925628985682)) 4609434218613702656 50 i:=by
  have:=chunkK_is lookLin50_0 (i - (-18)).toNat (by omega)
  rwa [show (-18:Int)+((i - (-18)).toNat:Int)=i from by omega] at this
end Go.Proofs.YtllaekopaglolaaGreat
end
/-
  The linearly interpolated mapping of each accuracy: what it is made of. (Printed by gen_par.py.)
-/
section
namespace Go.Proofs.YtllaekopaglolaaGreat
set_option maxRecDepth 100000
set_option exponentiation.threshold 5000
theorem parLin1:parLook ofLinQ accLinQ (idxLinQ 4632233457158529861 4632233457158529861) 4576918229304087675 4632233457158529861 4632233457158529861 4607227454796291113 (-948) (1045)=true:=by decide +kernel
theorem parLin2:parLook ofLinQ accLinQ (idxLinQ 4627729153749872002 4627729153749872002) 4581421828931458171 4627729153749872002 4627729153749872002 4607272490792564817 (-474) (522)=true:=by decide +kernel
theorem parLin3:parLook ofLinQ accLinQ (idxLinQ 4625383059581160311 4625383059581160311) 4584304132692975288 4625383059581160311 4625383059581160311 4607317526788838522 (-316) (348)=true:=by decide +kernel
theorem parLin4:parLook ofLinQ accLinQ (idxLinQ 4623222737870212012 4623222737870212012) 4585925428558828667 4623222737870212012 4623222737870212012 4607362562785112229 (-237) (261)=true:=by decide +kernel
theorem parLin5:parLook ofLinQ accLinQ (idxLinQ 4621814423207757742 4621814423207757742) 4587366580439587226 4621814423207757742 4621814423207757742 4607407598781385934 (-190) (208)=true:=by decide +kernel
theorem parLin6:parLook ofLinQ accLinQ (idxLinQ 4620875232752534042 4620875232752534042) 4588807732320345784 4620875232752534042 4620875232752534042 4607452634777659638 (-158) (174)=true:=by decide +kernel
theorem parLin7:parLook ofLinQ accLinQ (idxLinQ 4619715007912295168 4619715007912295168) 4589708452245819884 4619715007912295168 4619715007912295168 4607497670773933342 (-136) (149)=true:=by decide +kernel
theorem parLin8:parLook ofLinQ accLinQ (idxLinQ 4618707855139670799 4618707855139670799) 4590429028186199163 4618707855139670799 4618707855139670799 4607542706770207048 (-119) (130)=true:=by decide +kernel
theorem parLin9:parLook ofLinQ accLinQ (idxLinQ 4617924092776493673 4617924092776493673) 4591149604126578442 4617924092776493673 4617924092776493673 4607587742766480753 (-106) (115)=true:=by decide +kernel
theorem parLin10:parLook ofLinQ accLinQ (idxLinQ 4617296702659331388 4617296702659331388) 4591870180066957722 4617296702659331388 4617296702659331388 4607632778762754458 (-95) (104)=true:=by decide +kernel
theorem parLin11:parLook ofLinQ accLinQ (idxLinQ 4616783036749666730 4616783036749666730) 4592590756007337001 4616783036749666730 4616783036749666730 4607677814759028163 (-86) (94)=true:=by decide +kernel
theorem parLin12:parLook ofLinQ accLinQ (idxLinQ 4616354662913603694 4616354662913603694) 4593311331947716280 4616354662913603694 4616354662913603694 4607722850755301868 (-79) (86)=true:=by decide +kernel
theorem parLin13:parLook ofLinQ accLinQ (idxLinQ 4615794176474467320 4615794176474467320) 4593851763903000740 4615794176474467320 4615794176474467320 4607767886751575572 (-73) (79)=true:=by decide +kernel
theorem parLin14:parLook ofLinQ accLinQ (idxLinQ 4615171741520823070 4615171741520823070) 4594212051873190380 4615171741520823070 4615171741520823070 4607812922747849278 (-68) (74)=true:=by decide +kernel
theorem parLin15:parLook ofLinQ accLinQ (idxLinQ 4614631781373749204 4614631781373749204) 4594572339843380019 4614631781373749204 4614631781373749204 4607857958744122982 (-63) (69)=true:=by decide +kernel
theorem parLin16:parLook ofLinQ accLinQ (idxLinQ 4614158829705195414 4614158829705195414) 4594932627813569659 4614158829705195414 4614158829705195414 4607902994740396688 (-59) (64)=true:=by decide +kernel
theorem parLin17:parLook ofLinQ accLinQ (idxLinQ 4613741059155014611 4613741059155014611) 4595292915783759299 4613741059155014611 4613741059155014611 4607948030736670392 (-56) (60)=true:=by decide +kernel
theorem parLin18:parLook ofLinQ accLinQ (idxLinQ 4613369270502780181 4613369270502780181) 4595653203753948938 4613369270502780181 4613369270502780181 4607993066732944097 (-53) (57)=true:=by decide +kernel
theorem parLin19:parLook ofLinQ accLinQ (idxLinQ 4613036201048197704 4613036201048197704) 4596013491724138578 4613036201048197704 4613036201048197704 4608038102729217802 (-50) (54)=true:=by decide +kernel
theorem parLin20:parLook ofLinQ accLinQ (idxLinQ 4612736040477087940 4612736040477087940) 4596373779694328218 4612736040477087940 4612736040477087940 4608083138725491507 (-47) (51)=true:=by decide +kernel
theorem parLin21:parLook ofLinQ accLinQ (idxLinQ 4612464085051067976 4612464085051067976) 4596734067664517857 4612464085051067976 4612464085051067976 4608128174721765212 (-45) (49)=true:=by decide +kernel
theorem parLin22:parLook ofLinQ accLinQ (idxLinQ 4612216486108828178 4612216486108828178) 4597094355634707497 4612216486108828178 4612216486108828178 4608173210718038917 (-43) (46)=true:=by decide +kernel
theorem parLin23:parLook ofLinQ accLinQ (idxLinQ 4611990064175458239 4611990064175458239) 4597454643604897137 4611990064175458239 4611990064175458239 4608218246714312622 (-41) (44)=true:=by decide +kernel
theorem parLin24:parLook ofLinQ accLinQ (idxLinQ 4611782169544122917 4611782169544122917) 4597814931575086776 4611782169544122917 4611782169544122917 4608263282710586326 (-39) (42)=true:=by decide +kernel
theorem parLin25:parLook ofLinQ accLinQ (idxLinQ 4611495134208232514 4611495134208232514) 4598175219545276416 4611495134208232514 4611495134208232514 4608308318706860031 (-38) (40)=true:=by decide +kernel
theorem parLin26:parLook ofLinQ accLinQ (idxLinQ 4611140783377913012 4611140783377913012) 4598355363530371236 4611140783377913012 4611140783377913012 4608353354703133737 (-36) (39)=true:=by decide +kernel
theorem parLin27:parLook ofLinQ accLinQ (idxLinQ 4610812058799589437 4610812058799589437) 4598535507515466056 4610812058799589437 4610812058799589437 4608398390699407442 (-35) (37)=true:=by decide +kernel
theorem parLin28:parLook ofLinQ accLinQ (idxLinQ 4610506209299859920 4610506209299859920) 4598715651500560876 4610506209299859920 4610506209299859920 4608443426695681148 (-33) (36)=true:=by decide +kernel
theorem parLin29:parLook ofLinQ accLinQ (idxLinQ 4610220862892121517 4610220862892121517) 4598895795485655695 4610220862892121517 4610220862892121517 4608488462691954852 (-32) (35)=true:=by decide +kernel
theorem parLin30:parLook ofLinQ accLinQ (idxLinQ 4609953963567725618 4609953963567725618) 4599075939470750515 4609953963567725618 4609953963567725618 4608533498688228557 (-31) (33)=true:=by decide +kernel
theorem parLin31:parLook ofLinQ accLinQ (idxLinQ 4609703720320315842 4609703720320315842) 4599256083455845335 4609703720320315842 4609703720320315842 4608578534684502262 (-30) (32)=true:=by decide +kernel
theorem parLin32:parLook ofLinQ accLinQ (idxLinQ 4609468565727281664 4609468565727281664) 4599436227440940155 4609468565727281664 4609468565727281664 4608623570680775967 (-29) (31)=true:=by decide +kernel
theorem parLin33:parLook ofLinQ accLinQ (idxLinQ 4609247122060998742 4609247122060998742) 4599616371426034975 4609247122060998742 4609247122060998742 4608668606677049672 (-28) (30)=true:=by decide +kernel
theorem parLin34:parLook ofLinQ accLinQ (idxLinQ 4609038173379539423 4609038173379539423) 4599796515411129795 4609038173379539423 4609038173379539423 4608713642673323377 (-27) (29)=true:=by decide +kernel
theorem parLin35:parLook ofLinQ accLinQ (idxLinQ 4608840642400888357 4608840642400888357) 4599976659396224614 4608840642400888357 4608840642400888357 4608758678669597082 (-26) (28)=true:=by decide +kernel
theorem parLin36:parLook ofLinQ accLinQ (idxLinQ 4608653571230460983 4608653571230460983) 4600156803381319434 4608653571230460983 4608653571230460983 4608803714665870786 (-26) (27)=true:=by decide +kernel
theorem parLin37:parLook ofLinQ accLinQ (idxLinQ 4608476105212839593 4608476105212839593) 4600336947366414254 4608476105212839593 4608476105212839593 4608848750662144492 (-25) (26)=true:=by decide +kernel
theorem parLin38:parLook ofLinQ accLinQ (idxLinQ 4608307479332124942 4608307479332124942) 4600517091351509074 4608307479332124942 4608307479332124942 4608893786658418196 (-24) (26)=true:=by decide +kernel
theorem parLin39:parLook ofLinQ accLinQ (idxLinQ 4608147006703364017 4608147006703364017) 4600697235336603894 4608147006703364017 4608147006703364017 4608938822654691902 (-24) (25)=true:=by decide +kernel
theorem parLin40:parLook ofLinQ accLinQ (idxLinQ 4607994068789012533 4607994068789012533) 4600877379321698714 4607994068789012533 4607994068789012533 4608983858650965607 (-23) (24)=true:=by decide +kernel
theorem parLin41:parLook ofLinQ accLinQ (idxLinQ 4607848107045801953 4607848107045801953) 4601057523306793533 4607848107045801953 4607848107045801953 4609028894647239311 (-22) (23)=true:=by decide +kernel
theorem parLin42:parLook ofLinQ accLinQ (idxLinQ 4607708615763488624 4607708615763488624) 4601237667291888353 4607708615763488624 4607708615763488624 4609073930643513016 (-22) (23)=true:=by decide +kernel
theorem parLin43:parLook ofLinQ accLinQ (idxLinQ 4607575135901325166 4607575135901325166) 4601417811276983173 4607575135901325166 4607575135901325166 4609118966639786722 (-21) (22)=true:=by decide +kernel
theorem parLin44:parLook ofLinQ accLinQ (idxLinQ 4607447249763380840 4607447249763380840) 4601597955262077993 4607447249763380840 4607447249763380840 4609164002636060426 (-21) (22)=true:=by decide +kernel
theorem parLin45:parLook ofLinQ accLinQ (idxLinQ 4607324576382064951 4607324576382064951) 4601778099247172813 4607324576382064951 4607324576382064951 4609209038632334131 (-20) (21)=true:=by decide +kernel
theorem parLin46:parLook ofLinQ accLinQ (idxLinQ 4607206767501909588 4607206767501909588) 4601958243232267633 4607206767501909588 4607206767501909588 4609254074628607836 (-20) (21)=true:=by decide +kernel
theorem parLin47:parLook ofLinQ accLinQ (idxLinQ 4607004589348023344 4607004589348023344) 4602138387217362452 4607004589348023344 4607004589348023344 4609299110624881541 (-19) (20)=true:=by decide +kernel
theorem parLin48:parLook ofLinQ accLinQ (idxLinQ 4606786567573007331 4606786567573007331) 4602318531202457272 4606786567573007331 4606786567573007331 4609344146621155246 (-19) (19)=true:=by decide +kernel
theorem parLin49:parLook ofLinQ accLinQ (idxLinQ 4606576511936812257 4606576511936812257) 4602498675187552092 4606576511936812257 4606576511936812257 4609389182617428951 (-18) (19)=true:=by decide +kernel
theorem parLin50:parLook ofLinQ accLinQ (idxLinQ 4606373925628985682 4606373925628985682) 4602678819172646912 4606373925628985682 4606373925628985682 4609434218613702656 (-18) (19)=true:=by decide +kernel
end Go.Proofs.YtllaekopaglolaaGreat
end
