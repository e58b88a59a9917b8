/-
  The logarithmic mapping of each accuracy: what it is made of. (Printed by gen_par.py.)
-/
import Derived.Test.YtllaekopaglolaaGreatGBN
import Derived.Test.YtllaekopaglolaaGreatGBP
import Derived.Test.YtllaekopaglolaaGreatGBR
import Derived.Test.YtllaekopaglolaaGreatGAJ
section
namespace Go.Proofs.YtllaekopaglolaaGreat
set_option maxRecDepth 100000
set_option exponentiation.threshold 5000
theorem parLog1:parLook ofLogQ accLogQ (idxLogQ 0 4632233457158529904) 4576918229304087675 0 4632233457158529904 4607227454796291112 (-691) (690)=true:=by decide +kernel
theorem parLog2:parLook ofLogQ accLogQ (idxLogQ 0 4627729153749871953) 4581421828931458171 0 4627729153749871953 4607272490792564818 (-346) (345)=true:=by decide +kernel
theorem parLog3:parLook ofLogQ accLogQ (idxLogQ 0 4625383059581160310) 4584304132692975288 0 4625383059581160310 4607317526788838522 (-231) (230)=true:=by decide +kernel
theorem parLog4:parLook ofLogQ accLogQ (idxLogQ 0 4623222737870212026) 4585925428558828667 0 4623222737870212026 4607362562785112228 (-173) (172)=true:=by decide +kernel
theorem parLog5:parLook ofLogQ accLogQ (idxLogQ 0 4621814423207757742) 4587366580439587226 0 4621814423207757742 4607407598781385934 (-139) (138)=true:=by decide +kernel
theorem parLog6:parLook ofLogQ accLogQ (idxLogQ 0 4620875232752534038) 4588807732320345784 0 4620875232752534038 4607452634777659638 (-115) (114)=true:=by decide +kernel
theorem parLog7:parLook ofLogQ accLogQ (idxLogQ 0 4619715007912295160) 4589708452245819884 0 4619715007912295160 4607497670773933342 (-99) (98)=true:=by decide +kernel
theorem parLog8:parLook ofLogQ accLogQ (idxLogQ 0 4618707855139670793) 4590429028186199163 0 4618707855139670793 4607542706770207048 (-87) (86)=true:=by decide +kernel
theorem parLog9:parLook ofLogQ accLogQ (idxLogQ 0 4617924092776493676) 4591149604126578442 0 4617924092776493676 4607587742766480753 (-77) (76)=true:=by decide +kernel
theorem parLog10:parLook ofLogQ accLogQ (idxLogQ 0 4617296702659331384) 4591870180066957722 0 4617296702659331384 4607632778762754458 (-69) (68)=true:=by decide +kernel
theorem parLog11:parLook ofLogQ accLogQ (idxLogQ 0 4616783036749666729) 4592590756007337001 0 4616783036749666729 4607677814759028163 (-63) (62)=true:=by decide +kernel
theorem parLog12:parLook ofLogQ accLogQ (idxLogQ 0 4616354662913603693) 4593311331947716280 0 4616354662913603693 4607722850755301868 (-58) (57)=true:=by decide +kernel
theorem parLog13:parLook ofLogQ accLogQ (idxLogQ 0 4615794176474467322) 4593851763903000740 0 4615794176474467322 4607767886751575572 (-53) (52)=true:=by decide +kernel
theorem parLog14:parLook ofLogQ accLogQ (idxLogQ 0 4615171741520823072) 4594212051873190380 0 4615171741520823072 4607812922747849278 (-50) (49)=true:=by decide +kernel
theorem parLog15:parLook ofLogQ accLogQ (idxLogQ 0 4614631781373749207) 4594572339843380019 0 4614631781373749207 4607857958744122982 (-46) (45)=true:=by decide +kernel
theorem parLog16:parLook ofLogQ accLogQ (idxLogQ 0 4614158829705195416) 4594932627813569659 0 4614158829705195416 4607902994740396688 (-43) (42)=true:=by decide +kernel
theorem parLog17:parLook ofLogQ accLogQ (idxLogQ 0 4613741059155014615) 4595292915783759299 0 4613741059155014615 4607948030736670392 (-41) (40)=true:=by decide +kernel
theorem parLog18:parLook ofLogQ accLogQ (idxLogQ 0 4613369270502780182) 4595653203753948938 0 4613369270502780182 4607993066732944096 (-38) (37)=true:=by decide +kernel
theorem parLog19:parLook ofLogQ accLogQ (idxLogQ 0 4613036201048197705) 4596013491724138578 0 4613036201048197705 4608038102729217802 (-36) (35)=true:=by decide +kernel
theorem parLog20:parLook ofLogQ accLogQ (idxLogQ 0 4612736040477087941) 4596373779694328218 0 4612736040477087941 4608083138725491507 (-35) (34)=true:=by decide +kernel
theorem parLog21:parLook ofLogQ accLogQ (idxLogQ 0 4612464085051067974) 4596734067664517857 0 4612464085051067974 4608128174721765212 (-33) (32)=true:=by decide +kernel
theorem parLog22:parLook ofLogQ accLogQ (idxLogQ 0 4612216486108828178) 4597094355634707497 0 4612216486108828178 4608173210718038917 (-31) (30)=true:=by decide +kernel
theorem parLog23:parLook ofLogQ accLogQ (idxLogQ 0 4611990064175458239) 4597454643604897137 0 4611990064175458239 4608218246714312622 (-30) (29)=true:=by decide +kernel
theorem parLog24:parLook ofLogQ accLogQ (idxLogQ 0 4611782169544122916) 4597814931575086776 0 4611782169544122916 4608263282710586328 (-29) (28)=true:=by decide +kernel
theorem parLog25:parLook ofLogQ accLogQ (idxLogQ 0 4611495134208232510) 4598175219545276416 0 4611495134208232510 4608308318706860032 (-28) (27)=true:=by decide +kernel
theorem parLog26:parLook ofLogQ accLogQ (idxLogQ 0 4611140783377913010) 4598355363530371236 0 4611140783377913010 4608353354703133737 (-26) (25)=true:=by decide +kernel
theorem parLog27:parLook ofLogQ accLogQ (idxLogQ 0 4610812058799589437) 4598535507515466056 0 4610812058799589437 4608398390699407442 (-25) (24)=true:=by decide +kernel
theorem parLog28:parLook ofLogQ accLogQ (idxLogQ 0 4610506209299859922) 4598715651500560876 0 4610506209299859922 4608443426695681147 (-25) (24)=true:=by decide +kernel
theorem parLog29:parLook ofLogQ accLogQ (idxLogQ 0 4610220862892121518) 4598895795485655695 0 4610220862892121518 4608488462691954852 (-24) (23)=true:=by decide +kernel
theorem parLog30:parLook ofLogQ accLogQ (idxLogQ 0 4609953963567725617) 4599075939470750515 0 4609953963567725617 4608533498688228558 (-23) (22)=true:=by decide +kernel
theorem parLog31:parLook ofLogQ accLogQ (idxLogQ 0 4609703720320315841) 4599256083455845335 0 4609703720320315841 4608578534684502262 (-22) (21)=true:=by decide +kernel
theorem parLog32:parLook ofLogQ accLogQ (idxLogQ 0 4609468565727281664) 4599436227440940155 0 4609468565727281664 4608623570680775967 (-21) (20)=true:=by decide +kernel
theorem parLog33:parLook ofLogQ accLogQ (idxLogQ 0 4609247122060998742) 4599616371426034975 0 4609247122060998742 4608668606677049672 (-21) (20)=true:=by decide +kernel
theorem parLog34:parLook ofLogQ accLogQ (idxLogQ 0 4609038173379539422) 4599796515411129795 0 4609038173379539422 4608713642673323377 (-20) (19)=true:=by decide +kernel
theorem parLog35:parLook ofLogQ accLogQ (idxLogQ 0 4608840642400888357) 4599976659396224614 0 4608840642400888357 4608758678669597082 (-19) (18)=true:=by decide +kernel
theorem parLog36:parLook ofLogQ accLogQ (idxLogQ 0 4608653571230460981) 4600156803381319434 0 4608653571230460981 4608803714665870786 (-19) (18)=true:=by decide +kernel
theorem parLog37:parLook ofLogQ accLogQ (idxLogQ 0 4608476105212839592) 4600336947366414254 0 4608476105212839592 4608848750662144492 (-18) (17)=true:=by decide +kernel
theorem parLog38:parLook ofLogQ accLogQ (idxLogQ 0 4608307479332124942) 4600517091351509074 0 4608307479332124942 4608893786658418196 (-18) (17)=true:=by decide +kernel
theorem parLog39:parLook ofLogQ accLogQ (idxLogQ 0 4608147006703364017) 4600697235336603894 0 4608147006703364017 4608938822654691902 (-17) (16)=true:=by decide +kernel
theorem parLog40:parLook ofLogQ accLogQ (idxLogQ 0 4607994068789012533) 4600877379321698714 0 4607994068789012533 4608983858650965606 (-17) (16)=true:=by decide +kernel
theorem parLog41:parLook ofLogQ accLogQ (idxLogQ 0 4607848107045801954) 4601057523306793533 0 4607848107045801954 4609028894647239311 (-16) (15)=true:=by decide +kernel
theorem parLog42:parLook ofLogQ accLogQ (idxLogQ 0 4607708615763488624) 4601237667291888353 0 4607708615763488624 4609073930643513016 (-16) (15)=true:=by decide +kernel
theorem parLog43:parLook ofLogQ accLogQ (idxLogQ 0 4607575135901325166) 4601417811276983173 0 4607575135901325166 4609118966639786721 (-16) (15)=true:=by decide +kernel
theorem parLog44:parLook ofLogQ accLogQ (idxLogQ 0 4607447249763380839) 4601597955262077993 0 4607447249763380839 4609164002636060426 (-15) (14)=true:=by decide +kernel
theorem parLog45:parLook ofLogQ accLogQ (idxLogQ 0 4607324576382064951) 4601778099247172813 0 4607324576382064951 4609209038632334131 (-15) (14)=true:=by decide +kernel
theorem parLog46:parLook ofLogQ accLogQ (idxLogQ 0 4607206767501909589) 4601958243232267633 0 4607206767501909589 4609254074628607836 (-14) (13)=true:=by decide +kernel
theorem parLog47:parLook ofLogQ accLogQ (idxLogQ 0 4607004589348023346) 4602138387217362452 0 4607004589348023346 4609299110624881541 (-14) (13)=true:=by decide +kernel
theorem parLog48:parLook ofLogQ accLogQ (idxLogQ 0 4606786567573007331) 4602318531202457272 0 4606786567573007331 4609344146621155246 (-14) (13)=true:=by decide +kernel
theorem parLog49:parLook ofLogQ accLogQ (idxLogQ 0 4606576511936812258) 4602498675187552092 0 4606576511936812258 4609389182617428951 (-13) (12)=true:=by decide +kernel
theorem parLog50:parLook ofLogQ accLogQ (idxLogQ 0 4606373925628985684) 4602678819172646912 0 4606373925628985684 4609434218613702656 (-13) (12)=true:=by decide +kernel
end Go.Proofs.YtllaekopaglolaaGreat
end
/-
  The logarithmic mapping of each accuracy: what it tells. (Printed by gen_mapok.py.)
-/
section
namespace Go.Proofs.YtllaekopaglolaaGreat
open Go.RowKit
open Ieee
set_option maxRecDepth 100000
set_option exponentiation.threshold 5000
theorem mkLog {p a off mult rb part:Nat} {i0 i1:Int} (par:parLook ofLogQ accLogQ (idxLogQ off mult) a off mult rb i0 i1=true) (fact:∀ i,i0≤i→i≤i1+1→FactK (lowerLogQ off mult) (lookI (idxLogQ off mult)) rb p i)
    (hm:smallB mult=true) (ho:smallZ off=true) (hp:partLook p a part=true) (p1:1≤p) (p2:p≤50) (b0:-5000≤i0) (b1:i1≤5000):MapOk ofLogF accLogF idxLogF lowerLogF valueLogF p :=
  mapOk_mono ofLog_q accLog_q idxLog_q lowerLog_q (fun _ _ _ _=>rfl) (fun hm ho c1 c2 o1 o2 _ _ h1 h h2=>idxLog_mono hm ho c1 c2 o1 o2 h1 h h2) par fact hm ho hp p1 p2 b0 b1
theorem okLog1:MapOk ofLogF accLogF idxLogF lowerLogF valueLogF 1:=mkLog (part:=4576918229310428744) parLog1 (fun i a b=>factLog1 i a (by omega)) (by decide +kernel) (by decide +kernel) (by decide +kernel) (by decide) (by decide) (by decide) (by decide)
theorem okLog2:MapOk ofLogF accLogF idxLogF lowerLogF valueLogF 2:=mkLog (part:=4581421828937511009) parLog2 (fun i a b=>factLog2 i a (by omega)) (by decide +kernel) (by decide +kernel) (by decide +kernel) (by decide) (by decide) (by decide) (by decide)
theorem okLog3:MapOk ofLogF accLogF idxLogF lowerLogF valueLogF 3:=mkLog (part:=4584304132701910430) parLog3 (fun i a b=>factLog3 i a (by omega)) (by decide +kernel) (by decide +kernel) (by decide +kernel) (by decide) (by decide) (by decide) (by decide)
theorem okLog4:MapOk ofLogF accLogF idxLogF lowerLogF valueLogF 4:=mkLog (part:=4585925428564737390) parLog4 (fun i a b=>factLog4 i a (by omega)) (by decide +kernel) (by decide +kernel) (by decide +kernel) (by decide) (by decide) (by decide) (by decide)
theorem okLog5:MapOk ofLogF accLogF idxLogF lowerLogF valueLogF 5:=mkLog (part:=4587366580446937101) parLog5 (fun i a b=>factLog5 i a (by omega)) (by decide +kernel) (by decide +kernel) (by decide +kernel) (by decide) (by decide) (by decide) (by decide)
theorem okLog6:MapOk ofLogF accLogF idxLogF lowerLogF valueLogF 6:=mkLog (part:=4588807732329136811) parLog6 (fun i a b=>factLog6 i a (by omega)) (by decide +kernel) (by decide +kernel) (by decide +kernel) (by decide) (by decide) (by decide) (by decide)
theorem okLog7:MapOk ofLogF accLogF idxLogF lowerLogF valueLogF 7:=mkLog (part:=4589708452250935974) parLog7 (fun i a b=>factLog7 i a (by omega)) (by decide +kernel) (by decide +kernel) (by decide +kernel) (by decide) (by decide) (by decide) (by decide)
theorem okLog8:MapOk ofLogF accLogF idxLogF lowerLogF valueLogF 8:=mkLog (part:=4590429028192035829) parLog8 (fun i a b=>factLog8 i a (by omega)) (by decide +kernel) (by decide +kernel) (by decide +kernel) (by decide) (by decide) (by decide) (by decide)
theorem okLog9:MapOk ofLogF accLogF idxLogF lowerLogF valueLogF 9:=mkLog (part:=4591149604133135684) parLog9 (fun i a b=>factLog9 i a (by omega)) (by decide +kernel) (by decide +kernel) (by decide +kernel) (by decide) (by decide) (by decide) (by decide)
theorem okLog10:MapOk ofLogF accLogF idxLogF lowerLogF valueLogF 10:=mkLog (part:=4591870180074235540) parLog10 (fun i a b=>factLog10 i a (by omega)) (by decide +kernel) (by decide +kernel) (by decide +kernel) (by decide) (by decide) (by decide) (by decide)
theorem okLog11:MapOk ofLogF accLogF idxLogF lowerLogF valueLogF 11:=mkLog (part:=4592590756015335395) parLog11 (fun i a b=>factLog11 i a (by omega)) (by decide +kernel) (by decide +kernel) (by decide +kernel) (by decide) (by decide) (by decide) (by decide)
theorem okLog12:MapOk ofLogF accLogF idxLogF lowerLogF valueLogF 12:=mkLog (part:=4593311331956435250) parLog12 (fun i a b=>factLog12 i a (by omega)) (by decide +kernel) (by decide +kernel) (by decide +kernel) (by decide) (by decide) (by decide) (by decide)
theorem okLog13:MapOk ofLogF accLogF idxLogF lowerLogF valueLogF 13:=mkLog (part:=4593851763907720513) parLog13 (fun i a b=>factLog13 i a (by omega)) (by decide +kernel) (by decide +kernel) (by decide +kernel) (by decide) (by decide) (by decide) (by decide)
theorem okLog14:MapOk ofLogF accLogF idxLogF lowerLogF valueLogF 14:=mkLog (part:=4594212051878270441) parLog14 (fun i a b=>factLog14 i a (by omega)) (by decide +kernel) (by decide +kernel) (by decide +kernel) (by decide) (by decide) (by decide) (by decide)
theorem okLog15:MapOk ofLogF accLogF idxLogF lowerLogF valueLogF 15:=mkLog (part:=4594572339848820368) parLog15 (fun i a b=>factLog15 i a (by omega)) (by decide +kernel) (by decide +kernel) (by decide +kernel) (by decide) (by decide) (by decide) (by decide)
theorem okLog16:MapOk ofLogF accLogF idxLogF lowerLogF valueLogF 16:=mkLog (part:=4594932627819370296) parLog16 (fun i a b=>factLog16 i a (by omega)) (by decide +kernel) (by decide +kernel) (by decide +kernel) (by decide) (by decide) (by decide) (by decide)
theorem okLog17:MapOk ofLogF accLogF idxLogF lowerLogF valueLogF 17:=mkLog (part:=4595292915789920224) parLog17 (fun i a b=>factLog17 i a (by omega)) (by decide +kernel) (by decide +kernel) (by decide +kernel) (by decide) (by decide) (by decide) (by decide)
theorem okLog18:MapOk ofLogF accLogF idxLogF lowerLogF valueLogF 18:=mkLog (part:=4595653203760470151) parLog18 (fun i a b=>factLog18 i a (by omega)) (by decide +kernel) (by decide +kernel) (by decide +kernel) (by decide) (by decide) (by decide) (by decide)
theorem okLog19:MapOk ofLogF accLogF idxLogF lowerLogF valueLogF 19:=mkLog (part:=4596013491731020079) parLog19 (fun i a b=>factLog19 i a (by omega)) (by decide +kernel) (by decide +kernel) (by decide +kernel) (by decide) (by decide) (by decide) (by decide)
theorem okLog20:MapOk ofLogF accLogF idxLogF lowerLogF valueLogF 20:=mkLog (part:=4596373779701570007) parLog20 (fun i a b=>factLog20 i a (by omega)) (by decide +kernel) (by decide +kernel) (by decide +kernel) (by decide) (by decide) (by decide) (by decide)
theorem okLog21:MapOk ofLogF accLogF idxLogF lowerLogF valueLogF 21:=mkLog (part:=4596734067672119934) parLog21 (fun i a b=>factLog21 i a (by omega)) (by decide +kernel) (by decide +kernel) (by decide +kernel) (by decide) (by decide) (by decide) (by decide)
theorem okLog22:MapOk ofLogF accLogF idxLogF lowerLogF valueLogF 22:=mkLog (part:=4597094355642669862) parLog22 (fun i a b=>factLog22 i a (by omega)) (by decide +kernel) (by decide +kernel) (by decide +kernel) (by decide) (by decide) (by decide) (by decide)
theorem okLog23:MapOk ofLogF accLogF idxLogF lowerLogF valueLogF 23:=mkLog (part:=4597454643613219790) parLog23 (fun i a b=>factLog23 i a (by omega)) (by decide +kernel) (by decide +kernel) (by decide +kernel) (by decide) (by decide) (by decide) (by decide)
theorem okLog24:MapOk ofLogF accLogF idxLogF lowerLogF valueLogF 24:=mkLog (part:=4597814931583769717) parLog24 (fun i a b=>factLog24 i a (by omega)) (by decide +kernel) (by decide +kernel) (by decide +kernel) (by decide) (by decide) (by decide) (by decide)
theorem okLog25:MapOk ofLogF accLogF idxLogF lowerLogF valueLogF 25:=mkLog (part:=4598175219549798030) parLog25 (fun i a b=>factLog25 i a (by omega)) (by decide +kernel) (by decide +kernel) (by decide +kernel) (by decide) (by decide) (by decide) (by decide)
theorem okLog26:MapOk ofLogF accLogF idxLogF lowerLogF valueLogF 26:=mkLog (part:=4598355363535072994) parLog26 (fun i a b=>factLog26 i a (by omega)) (by decide +kernel) (by decide +kernel) (by decide +kernel) (by decide) (by decide) (by decide) (by decide)
theorem okLog27:MapOk ofLogF accLogF idxLogF lowerLogF valueLogF 27:=mkLog (part:=4598535507520347958) parLog27 (fun i a b=>factLog27 i a (by omega)) (by decide +kernel) (by decide +kernel) (by decide +kernel) (by decide) (by decide) (by decide) (by decide)
theorem okLog28:MapOk ofLogF accLogF idxLogF lowerLogF valueLogF 28:=mkLog (part:=4598715651505622922) parLog28 (fun i a b=>factLog28 i a (by omega)) (by decide +kernel) (by decide +kernel) (by decide +kernel) (by decide) (by decide) (by decide) (by decide)
theorem okLog29:MapOk ofLogF accLogF idxLogF lowerLogF valueLogF 29:=mkLog (part:=4598895795490897885) parLog29 (fun i a b=>factLog29 i a (by omega)) (by decide +kernel) (by decide +kernel) (by decide +kernel) (by decide) (by decide) (by decide) (by decide)
theorem okLog30:MapOk ofLogF accLogF idxLogF lowerLogF valueLogF 30:=mkLog (part:=4599075939476172849) parLog30 (fun i a b=>factLog30 i a (by omega)) (by decide +kernel) (by decide +kernel) (by decide +kernel) (by decide) (by decide) (by decide) (by decide)
theorem okLog31:MapOk ofLogF accLogF idxLogF lowerLogF valueLogF 31:=mkLog (part:=4599256083461447813) parLog31 (fun i a b=>factLog31 i a (by omega)) (by decide +kernel) (by decide +kernel) (by decide +kernel) (by decide) (by decide) (by decide) (by decide)
theorem okLog32:MapOk ofLogF accLogF idxLogF lowerLogF valueLogF 32:=mkLog (part:=4599436227446722777) parLog32 (fun i a b=>factLog32 i a (by omega)) (by decide +kernel) (by decide +kernel) (by decide +kernel) (by decide) (by decide) (by decide) (by decide)
theorem okLog33:MapOk ofLogF accLogF idxLogF lowerLogF valueLogF 33:=mkLog (part:=4599616371431997741) parLog33 (fun i a b=>factLog33 i a (by omega)) (by decide +kernel) (by decide +kernel) (by decide +kernel) (by decide) (by decide) (by decide) (by decide)
theorem okLog34:MapOk ofLogF accLogF idxLogF lowerLogF valueLogF 34:=mkLog (part:=4599796515417272705) parLog34 (fun i a b=>factLog34 i a (by omega)) (by decide +kernel) (by decide +kernel) (by decide +kernel) (by decide) (by decide) (by decide) (by decide)
theorem okLog35:MapOk ofLogF accLogF idxLogF lowerLogF valueLogF 35:=mkLog (part:=4599976659402547668) parLog35 (fun i a b=>factLog35 i a (by omega)) (by decide +kernel) (by decide +kernel) (by decide +kernel) (by decide) (by decide) (by decide) (by decide)
theorem okLog36:MapOk ofLogF accLogF idxLogF lowerLogF valueLogF 36:=mkLog (part:=4600156803387822632) parLog36 (fun i a b=>factLog36 i a (by omega)) (by decide +kernel) (by decide +kernel) (by decide +kernel) (by decide) (by decide) (by decide) (by decide)
theorem okLog37:MapOk ofLogF accLogF idxLogF lowerLogF valueLogF 37:=mkLog (part:=4600336947373097596) parLog37 (fun i a b=>factLog37 i a (by omega)) (by decide +kernel) (by decide +kernel) (by decide +kernel) (by decide) (by decide) (by decide) (by decide)
theorem okLog38:MapOk ofLogF accLogF idxLogF lowerLogF valueLogF 38:=mkLog (part:=4600517091358372560) parLog38 (fun i a b=>factLog38 i a (by omega)) (by decide +kernel) (by decide +kernel) (by decide +kernel) (by decide) (by decide) (by decide) (by decide)
theorem okLog39:MapOk ofLogF accLogF idxLogF lowerLogF valueLogF 39:=mkLog (part:=4600697235343647524) parLog39 (fun i a b=>factLog39 i a (by omega)) (by decide +kernel) (by decide +kernel) (by decide +kernel) (by decide) (by decide) (by decide) (by decide)
theorem okLog40:MapOk ofLogF accLogF idxLogF lowerLogF valueLogF 40:=mkLog (part:=4600877379328922488) parLog40 (fun i a b=>factLog40 i a (by omega)) (by decide +kernel) (by decide +kernel) (by decide +kernel) (by decide) (by decide) (by decide) (by decide)
theorem okLog41:MapOk ofLogF accLogF idxLogF lowerLogF valueLogF 41:=mkLog (part:=4601057523314197451) parLog41 (fun i a b=>factLog41 i a (by omega)) (by decide +kernel) (by decide +kernel) (by decide +kernel) (by decide) (by decide) (by decide) (by decide)
theorem okLog42:MapOk ofLogF accLogF idxLogF lowerLogF valueLogF 42:=mkLog (part:=4601237667299472415) parLog42 (fun i a b=>factLog42 i a (by omega)) (by decide +kernel) (by decide +kernel) (by decide +kernel) (by decide) (by decide) (by decide) (by decide)
theorem okLog43:MapOk ofLogF accLogF idxLogF lowerLogF valueLogF 43:=mkLog (part:=4601417811284747379) parLog43 (fun i a b=>factLog43 i a (by omega)) (by decide +kernel) (by decide +kernel) (by decide +kernel) (by decide) (by decide) (by decide) (by decide)
theorem okLog44:MapOk ofLogF accLogF idxLogF lowerLogF valueLogF 44:=mkLog (part:=4601597955270022343) parLog44 (fun i a b=>factLog44 i a (by omega)) (by decide +kernel) (by decide +kernel) (by decide +kernel) (by decide) (by decide) (by decide) (by decide)
theorem okLog45:MapOk ofLogF accLogF idxLogF lowerLogF valueLogF 45:=mkLog (part:=4601778099255297307) parLog45 (fun i a b=>factLog45 i a (by omega)) (by decide +kernel) (by decide +kernel) (by decide +kernel) (by decide) (by decide) (by decide) (by decide)
theorem okLog46:MapOk ofLogF accLogF idxLogF lowerLogF valueLogF 46:=mkLog (part:=4601958243240572271) parLog46 (fun i a b=>factLog46 i a (by omega)) (by decide +kernel) (by decide +kernel) (by decide +kernel) (by decide) (by decide) (by decide) (by decide)
theorem okLog47:MapOk ofLogF accLogF idxLogF lowerLogF valueLogF 47:=mkLog (part:=4602138387225847234) parLog47 (fun i a b=>factLog47 i a (by omega)) (by decide +kernel) (by decide +kernel) (by decide +kernel) (by decide) (by decide) (by decide) (by decide)
theorem okLog48:MapOk ofLogF accLogF idxLogF lowerLogF valueLogF 48:=mkLog (part:=4602318531211122198) parLog48 (fun i a b=>factLog48 i a (by omega)) (by decide +kernel) (by decide +kernel) (by decide +kernel) (by decide) (by decide) (by decide) (by decide)
theorem okLog49:MapOk ofLogF accLogF idxLogF lowerLogF valueLogF 49:=mkLog (part:=4602498675196397162) parLog49 (fun i a b=>factLog49 i a (by omega)) (by decide +kernel) (by decide +kernel) (by decide +kernel) (by decide) (by decide) (by decide) (by decide)
theorem okLog50:MapOk ofLogF accLogF idxLogF lowerLogF valueLogF 50:=mkLog (part:=4602678819177159519) parLog50 (fun i a b=>factLog50 i a (by omega)) (by decide +kernel) (by decide +kernel) (by decide +kernel) (by decide) (by decide) (by decide) (by decide)
theorem okLog (p:Nat) (h1:1≤p) (h2:p≤50):MapOk ofLogF accLogF idxLogF lowerLogF valueLogF p:=by
  match p,h1,h2 with
  | 0,h,_=>exact absurd h (by decide)
  | 1,_,_=>exact okLog1
  | 2,_,_=>exact okLog2
  | 3,_,_=>exact okLog3
  | 4,_,_=>exact okLog4
  | 5,_,_=>exact okLog5
  | 6,_,_=>exact okLog6
  | 7,_,_=>exact okLog7
  | 8,_,_=>exact okLog8
  | 9,_,_=>exact okLog9
  | 10,_,_=>exact okLog10
  | 11,_,_=>exact okLog11
  | 12,_,_=>exact okLog12
  | 13,_,_=>exact okLog13
  | 14,_,_=>exact okLog14
  | 15,_,_=>exact okLog15
  | 16,_,_=>exact okLog16
  | 17,_,_=>exact okLog17
  | 18,_,_=>exact okLog18
  | 19,_,_=>exact okLog19
  | 20,_,_=>exact okLog20
  | 21,_,_=>exact okLog21
  | 22,_,_=>exact okLog22
  | 23,_,_=>exact okLog23
  | 24,_,_=>exact okLog24
  | 25,_,_=>exact okLog25
  | 26,_,_=>exact okLog26
  | 27,_,_=>exact okLog27
  | 28,_,_=>exact okLog28
  | 29,_,_=>exact okLog29
  | 30,_,_=>exact okLog30
  | 31,_,_=>exact okLog31
  | 32,_,_=>exact okLog32
  | 33,_,_=>exact okLog33
  | 34,_,_=>exact okLog34
  | 35,_,_=>exact okLog35
  | 36,_,_=>exact okLog36
  | 37,_,_=>exact okLog37
  | 38,_,_=>exact okLog38
  | 39,_,_=>exact okLog39
  | 40,_,_=>exact okLog40
  | 41,_,_=>exact okLog41
  | 42,_,_=>exact okLog42
  | 43,_,_=>exact okLog43
  | 44,_,_=>exact okLog44
  | 45,_,_=>exact okLog45
  | 46,_,_=>exact okLog46
  | 47,_,_=>exact okLog47
  | 48,_,_=>exact okLog48
  | 49,_,_=>exact okLog49
  | 50,_,_=>exact okLog50
  | n+51,_,h=>exact absurd h (by omega)
end Go.Proofs.YtllaekopaglolaaGreat
end
/-
  The linearly interpolated mapping: looks at the borders between indices. (Printed by gen_chk.py.)
-/
section
namespace Go.Proofs.YtllaekopaglolaaGreat
set_option maxRecDepth 100000
set_option exponentiation.threshold 5000
theorem lookLin1_0:chunkK (lowerLinQ 4632233457158529861 4632233457158529861) (lookI (idxLinQ 4632233457158529861 4632233457158529861)) 4607227454796291113 1 250 0 (-948)=true:=by decide +kernel
theorem lookLin1_1:chunkK (lowerLinQ 4632233457158529861 4632233457158529861) (lookI (idxLinQ 4632233457158529861 4632233457158529861)) 4607227454796291113 1 250 0 (-698)=true:=by decide +kernel
theorem lookLin1_2:chunkK (lowerLinQ 4632233457158529861 4632233457158529861) (lookI (idxLinQ 4632233457158529861 4632233457158529861)) 4607227454796291113 1 250 0 (-448)=true:=by decide +kernel
theorem lookLin1_3:chunkK (lowerLinQ 4632233457158529861 4632233457158529861) (lookI (idxLinQ 4632233457158529861 4632233457158529861)) 4607227454796291113 1 250 0 (-198)=true:=by decide +kernel
theorem lookLin1_4:chunkK (lowerLinQ 4632233457158529861 4632233457158529861) (lookI (idxLinQ 4632233457158529861 4632233457158529861)) 4607227454796291113 1 250 0 (52)=true:=by decide +kernel
theorem lookLin1_5:chunkK (lowerLinQ 4632233457158529861 4632233457158529861) (lookI (idxLinQ 4632233457158529861 4632233457158529861)) 4607227454796291113 1 250 0 (302)=true:=by decide +kernel
theorem lookLin1_6:chunkK (lowerLinQ 4632233457158529861 4632233457158529861) (lookI (idxLinQ 4632233457158529861 4632233457158529861)) 4607227454796291113 1 250 0 (552)=true:=by decide +kernel
theorem lookLin1_7:chunkK (lowerLinQ 4632233457158529861 4632233457158529861) (lookI (idxLinQ 4632233457158529861 4632233457158529861)) 4607227454796291113 1 245 0 (802)=true:=by decide +kernel
theorem lookLin2_0:chunkK (lowerLinQ 4627729153749872002 4627729153749872002) (lookI (idxLinQ 4627729153749872002 4627729153749872002)) 4607272490792564817 2 250 0 (-474)=true:=by decide +kernel
theorem lookLin2_1:chunkK (lowerLinQ 4627729153749872002 4627729153749872002) (lookI (idxLinQ 4627729153749872002 4627729153749872002)) 4607272490792564817 2 250 0 (-224)=true:=by decide +kernel
theorem lookLin2_2:chunkK (lowerLinQ 4627729153749872002 4627729153749872002) (lookI (idxLinQ 4627729153749872002 4627729153749872002)) 4607272490792564817 2 250 0 (26)=true:=by decide +kernel
theorem lookLin2_3:chunkK (lowerLinQ 4627729153749872002 4627729153749872002) (lookI (idxLinQ 4627729153749872002 4627729153749872002)) 4607272490792564817 2 248 0 (276)=true:=by decide +kernel
theorem lookLin3_0:chunkK (lowerLinQ 4625383059581160311 4625383059581160311) (lookI (idxLinQ 4625383059581160311 4625383059581160311)) 4607317526788838522 3 250 0 (-316)=true:=by decide +kernel
end Go.Proofs.YtllaekopaglolaaGreat
end
/-
  The linearly interpolated mapping: looks at the borders between indices. (Printed by gen_chk.py.)
-/
section
namespace Go.Proofs.YtllaekopaglolaaGreat
set_option maxRecDepth 100000
set_option exponentiation.threshold 5000
theorem lookLin3_1:chunkK (lowerLinQ 4625383059581160311 4625383059581160311) (lookI (idxLinQ 4625383059581160311 4625383059581160311)) 4607317526788838522 3 250 0 (-66)=true:=by decide +kernel
theorem lookLin3_2:chunkK (lowerLinQ 4625383059581160311 4625383059581160311) (lookI (idxLinQ 4625383059581160311 4625383059581160311)) 4607317526788838522 3 166 0 (184)=true:=by decide +kernel
theorem lookLin4_0:chunkK (lowerLinQ 4623222737870212012 4623222737870212012) (lookI (idxLinQ 4623222737870212012 4623222737870212012)) 4607362562785112229 4 250 0 (-237)=true:=by decide +kernel
theorem lookLin4_1:chunkK (lowerLinQ 4623222737870212012 4623222737870212012) (lookI (idxLinQ 4623222737870212012 4623222737870212012)) 4607362562785112229 4 250 0 (13)=true:=by decide +kernel
theorem lookLin5_0:chunkK (lowerLinQ 4621814423207757742 4621814423207757742) (lookI (idxLinQ 4621814423207757742 4621814423207757742)) 4607407598781385934 5 250 0 (-190)=true:=by decide +kernel
theorem lookLin5_1:chunkK (lowerLinQ 4621814423207757742 4621814423207757742) (lookI (idxLinQ 4621814423207757742 4621814423207757742)) 4607407598781385934 5 150 0 (60)=true:=by decide +kernel
theorem lookLin6_0:chunkK (lowerLinQ 4620875232752534042 4620875232752534042) (lookI (idxLinQ 4620875232752534042 4620875232752534042)) 4607452634777659638 6 250 0 (-158)=true:=by decide +kernel
theorem lookLin6_1:chunkK (lowerLinQ 4620875232752534042 4620875232752534042) (lookI (idxLinQ 4620875232752534042 4620875232752534042)) 4607452634777659638 6 84 0 (92)=true:=by decide +kernel
theorem lookLin7_0:chunkK (lowerLinQ 4619715007912295168 4619715007912295168) (lookI (idxLinQ 4619715007912295168 4619715007912295168)) 4607497670773933342 7 250 0 (-136)=true:=by decide +kernel
theorem lookLin7_1:chunkK (lowerLinQ 4619715007912295168 4619715007912295168) (lookI (idxLinQ 4619715007912295168 4619715007912295168)) 4607497670773933342 7 37 0 (114)=true:=by decide +kernel
theorem lookLin8_0:chunkK (lowerLinQ 4618707855139670799 4618707855139670799) (lookI (idxLinQ 4618707855139670799 4618707855139670799)) 4607542706770207048 8 250 0 (-119)=true:=by decide +kernel
theorem lookLin8_1:chunkK (lowerLinQ 4618707855139670799 4618707855139670799) (lookI (idxLinQ 4618707855139670799 4618707855139670799)) 4607542706770207048 8 1 0 (131)=true:=by decide +kernel
theorem lookLin9_0:chunkK (lowerLinQ 4617924092776493673 4617924092776493673) (lookI (idxLinQ 4617924092776493673 4617924092776493673)) 4607587742766480753 9 223 0 (-106)=true:=by decide +kernel
theorem lookLin10_0:chunkK (lowerLinQ 4617296702659331388 4617296702659331388) (lookI (idxLinQ 4617296702659331388 4617296702659331388)) 4607632778762754458 10 201 0 (-95)=true:=by decide +kernel
theorem lookLin11_0:chunkK (lowerLinQ 4616783036749666730 4616783036749666730) (lookI (idxLinQ 4616783036749666730 4616783036749666730)) 4607677814759028163 11 182 0 (-86)=true:=by decide +kernel
theorem lookLin12_0:chunkK (lowerLinQ 4616354662913603694 4616354662913603694) (lookI (idxLinQ 4616354662913603694 4616354662913603694)) 4607722850755301868 12 167 0 (-79)=true:=by decide +kernel
theorem lookLin13_0:chunkK (lowerLinQ 4615794176474467320 4615794176474467320) (lookI (idxLinQ 4615794176474467320 4615794176474467320)) 4607767886751575572 13 154 0 (-73)=true:=by decide +kernel
theorem lookLin14_0:chunkK (lowerLinQ 4615171741520823070 4615171741520823070) (lookI (idxLinQ 4615171741520823070 4615171741520823070)) 4607812922747849278 14 144 0 (-68)=true:=by decide +kernel
end Go.Proofs.YtllaekopaglolaaGreat
end
