/-
  The cubically interpolated mapping: what the looks tell,for each hundredth. (Printed by gen_chk.py.)
-/
import Derived.Test.YtllaekopaglolaaGreatGCA
import Derived.Test.YtllaekopaglolaaGreatGCB
import Derived.Test.YtllaekopaglolaaGreatGBN
section
namespace Go.Proofs.YtllaekopaglolaaGreat
set_option maxRecDepth 100000
set_option exponentiation.threshold 5000
theorem factCub1 (i:Int) (h1:-698≤i) (h2:i≤698):FactK (lowerCubQ 0 4630122465203820715) (lookC (idxCubQ 0 4630122465203820715)) 4607227454796291113 1 i:=by
  by_cases c0:i < -448
  · have:=chunkK_is lookCub1_0 (i - (-698)).toNat (by omega)
    rwa [show (-698:Int)+((i - (-698)).toNat:Int)=i from by omega] at this
  by_cases c1:i < -198
  · have:=chunkK_is lookCub1_1 (i - (-448)).toNat (by omega)
    rwa [show (-448:Int)+((i - (-448)).toNat:Int)=i from by omega] at this
  by_cases c2:i<52
  · have:=chunkK_is lookCub1_2 (i - (-198)).toNat (by omega)
    rwa [show (-198:Int)+((i - (-198)).toNat:Int)=i from by omega] at this
  by_cases c3:i<302
  · have:=chunkK_is lookCub1_3 (i - (52)).toNat (by omega)
    rwa [show (52:Int)+((i - (52)).toNat:Int)=i from by omega] at this
  by_cases c4:i<552
  · have:=chunkK_is lookCub1_4 (i - (302)).toNat (by omega)
    rwa [show (302:Int)+((i - (302)).toNat:Int)=i from by omega] at this
  have:=chunkK_is lookCub1_5 (i - (552)).toNat (by omega)
  rwa [show (552:Int)+((i - (552)).toNat:Int)=i from by omega] at this
theorem factCub2 (i:Int) (h1:-349≤i) (h2:i≤349):FactK (lowerCubQ 0 4625618372929549045) (lookC (idxCubQ 0 4625618372929549045)) 4607272490792564818 2 i:=by
  by_cases c0:i < -99
  · have:=chunkK_is lookCub2_0 (i - (-349)).toNat (by omega)
    rwa [show (-349:Int)+((i - (-349)).toNat:Int)=i from by omega] at this
  by_cases c1:i<151
  · have:=chunkK_is lookCub2_1 (i - (-99)).toNat (by omega)
    rwa [show (-99:Int)+((i - (-99)).toNat:Int)=i from by omega] at this
  have:=chunkK_is lookCub2_2 (i - (151)).toNat (by omega)
  rwa [show (151:Int)+((i - (151)).toNat:Int)=i from by omega] at this
theorem factCub3 (i:Int) (h1:-233≤i) (h2:i≤233):FactK (lowerCubQ 0 4622755396713402374) (lookC (idxCubQ 0 4622755396713402374)) 4607317526788838522 3 i:=by
  by_cases c0:i<17
  · have:=chunkK_is lookCub3_0 (i - (-233)).toNat (by omega)
    rwa [show (-233:Int)+((i - (-233)).toNat:Int)=i from by omega] at this
  have:=chunkK_is lookCub3_1 (i - (17)).toNat (by omega)
  rwa [show (17:Int)+((i - (17)).toNat:Int)=i from by omega] at this
theorem factCub4 (i:Int) (h1:-175≤i) (h2:i≤175):FactK (lowerCubQ 0 4621112801925575940) (lookC (idxCubQ 0 4621112801925575940)) 4607362562785112228 4 i:=by
  by_cases c0:i<75
  · have:=chunkK_is lookCub4_0 (i - (-175)).toNat (by omega)
    rwa [show (-175:Int)+((i - (-175)).toNat:Int)=i from by omega] at this
  have:=chunkK_is lookCub4_1 (i - (75)).toNat (by omega)
  rwa [show (75:Int)+((i - (75)).toNat:Int)=i from by omega] at this
theorem factCub5 (i:Int) (h1:-140≤i) (h2:i≤140):FactK (lowerCubQ 0 4619560745641586986) (lookC (idxCubQ 0 4619560745641586986)) 4607407598781385934 5 i:=by
  by_cases c0:i<110
  · have:=chunkK_is lookCub5_0 (i - (-140)).toNat (by omega)
    rwa [show (-140:Int)+((i - (-140)).toNat:Int)=i from by omega] at this
  have:=chunkK_is lookCub5_1 (i - (110)).toNat (by omega)
  rwa [show (110:Int)+((i - (110)).toNat:Int)=i from by omega] at this
theorem factCub6 (i:Int) (h1:-117≤i) (h2:i≤117):FactK (lowerCubQ 0 4618245879004273790) (lookC (idxCubQ 0 4618245879004273790)) 4607452634777659638 6 i:=by
  have:=chunkK_is lookCub6_0 (i - (-117)).toNat (by omega)
  rwa [show (-117:Int)+((i - (-117)).toNat:Int)=i from by omega] at this
theorem factCub7 (i:Int) (h1:-100≤i) (h2:i≤100):FactK (lowerCubQ 0 4617306311066822985) (lookC (idxCubQ 0 4617306311066822985)) 4607497670773933342 7 i:=by
  have:=chunkK_is lookCub7_0 (i - (-100)).toNat (by omega)
  rwa [show (-100:Int)+((i - (-100)).toNat:Int)=i from by omega] at this
theorem factCub8 (i:Int) (h1:-88≤i) (h2:i≤88):FactK (lowerCubQ 0 4616601304125985925) (lookC (idxCubQ 0 4616601304125985925)) 4607542706770207048 8 i:=by
  have:=chunkK_is lookCub8_0 (i - (-88)).toNat (by omega)
  rwa [show (-88:Int)+((i - (-88)).toNat:Int)=i from by omega] at this
theorem factCub9 (i:Int) (h1:-78≤i) (h2:i≤78):FactK (lowerCubQ 0 4615915722888765488) (lookC (idxCubQ 0 4615915722888765488)) 4607587742766480753 9 i:=by
  have:=chunkK_is lookCub9_0 (i - (-78)).toNat (by omega)
  rwa [show (-78:Int)+((i - (-78)).toNat:Int)=i from by omega] at this
theorem factCub10 (i:Int) (h1:-70≤i) (h2:i≤70):FactK (lowerCubQ 0 4615037376724738279) (lookC (idxCubQ 0 4615037376724738279)) 4607632778762754458 10 i:=by
  have:=chunkK_is lookCub10_0 (i - (-70)).toNat (by omega)
  rwa [show (-70:Int)+((i - (-70)).toNat:Int)=i from by omega] at this
theorem factCub11 (i:Int) (h1:-64≤i) (h2:i≤64):FactK (lowerCubQ 0 4614318244451207764) (lookC (idxCubQ 0 4614318244451207764)) 4607677814759028163 11 i:=by
  have:=chunkK_is lookCub11_0 (i - (-64)).toNat (by omega)
  rwa [show (-64:Int)+((i - (-64)).toNat:Int)=i from by omega] at this
theorem factCub12 (i:Int) (h1:-58≤i) (h2:i≤58):FactK (lowerCubQ 0 4613718521080719513) (lookC (idxCubQ 0 4613718521080719513)) 4607722850755301868 12 i:=by
  have:=chunkK_is lookCub12_0 (i - (-58)).toNat (by omega)
  rwa [show (-58:Int)+((i - (-58)).toNat:Int)=i from by omega] at this
theorem factCub13 (i:Int) (h1:-54≤i) (h2:i≤54):FactK (lowerCubQ 0 4613210649172132344) (lookC (idxCubQ 0 4613210649172132344)) 4607767886751575572 13 i:=by
  have:=chunkK_is lookCub13_0 (i - (-54)).toNat (by omega)
  rwa [show (-54:Int)+((i - (-54)).toNat:Int)=i from by omega] at this
theorem factCub14 (i:Int) (h1:-50≤i) (h2:i≤50):FactK (lowerCubQ 0 4612774944704581373) (lookC (idxCubQ 0 4612774944704581373)) 4607812922747849278 14 i:=by
  have:=chunkK_is lookCub14_0 (i - (-50)).toNat (by omega)
  rwa [show (-50:Int)+((i - (-50)).toNat:Int)=i from by omega] at this
theorem factCub15 (i:Int) (h1:-47≤i) (h2:i≤47):FactK (lowerCubQ 0 4612396972601629667) (lookC (idxCubQ 0 4612396972601629667)) 4607857958744122982 15 i:=by
  have:=chunkK_is lookCub15_0 (i - (-47)).toNat (by omega)
  rwa [show (-47:Int)+((i - (-47)).toNat:Int)=i from by omega] at this
theorem factCub16 (i:Int) (h1:-44≤i) (h2:i≤44):FactK (lowerCubQ 0 4612065906433642013) (lookC (idxCubQ 0 4612065906433642013)) 4607902994740396688 16 i:=by
  have:=chunkK_is lookCub16_0 (i - (-44)).toNat (by omega)
  rwa [show (-44:Int)+((i - (-44)).toNat:Int)=i from by omega] at this
theorem factCub17 (i:Int) (h1:-41≤i) (h2:i≤41):FactK (lowerCubQ 0 4611773467048515453) (lookC (idxCubQ 0 4611773467048515453)) 4607948030736670392 17 i:=by
  have:=chunkK_is lookCub17_0 (i - (-41)).toNat (by omega)
  rwa [show (-41:Int)+((i - (-41)).toNat:Int)=i from by omega] at this
theorem factCub18 (i:Int) (h1:-39≤i) (h2:i≤39):FactK (lowerCubQ 0 4611340411556514795) (lookC (idxCubQ 0 4611340411556514795)) 4607993066732944096 18 i:=by
  have:=chunkK_is lookCub18_0 (i - (-39)).toNat (by omega)
  rwa [show (-39:Int)+((i - (-39)).toNat:Int)=i from by omega] at this
theorem factCub19 (i:Int) (h1:-37≤i) (h2:i≤37):FactK (lowerCubQ 0 4610874114320099329) (lookC (idxCubQ 0 4610874114320099329)) 4608038102729217802 19 i:=by
  have:=chunkK_is lookCub19_0 (i - (-37)).toNat (by omega)
  rwa [show (-37:Int)+((i - (-37)).toNat:Int)=i from by omega] at this
theorem factCub20 (i:Int) (h1:-35≤i) (h2:i≤35):FactK (lowerCubQ 0 4610453889520545655) (lookC (idxCubQ 0 4610453889520545655)) 4608083138725491507 20 i:=by
  have:=chunkK_is lookCub20_0 (i - (-35)).toNat (by omega)
  rwa [show (-35:Int)+((i - (-35)).toNat:Int)=i from by omega] at this
theorem factCub21 (i:Int) (h1:-33≤i) (h2:i≤33):FactK (lowerCubQ 0 4610073151924117705) (lookC (idxCubQ 0 4610073151924117705)) 4608128174721765212 21 i:=by
  have:=chunkK_is lookCub21_0 (i - (-33)).toNat (by omega)
  rwa [show (-33:Int)+((i - (-33)).toNat:Int)=i from by omega] at this
theorem factCub22 (i:Int) (h1:-32≤i) (h2:i≤32):FactK (lowerCubQ 0 4609726513404981989) (lookC (idxCubQ 0 4609726513404981989)) 4608173210718038917 22 i:=by
  have:=chunkK_is lookCub22_0 (i - (-32)).toNat (by omega)
  rwa [show (-32:Int)+((i - (-32)).toNat:Int)=i from by omega] at this
theorem factCub23 (i:Int) (h1:-30≤i) (h2:i≤30):FactK (lowerCubQ 0 4609409522698264074) (lookC (idxCubQ 0 4609409522698264074)) 4608218246714312622 23 i:=by
  have:=chunkK_is lookCub23_0 (i - (-30)).toNat (by omega)
  rwa [show (-30:Int)+((i - (-30)).toNat:Int)=i from by omega] at this
theorem factCub24 (i:Int) (h1:-29≤i) (h2:i≤29):FactK (lowerCubQ 0 4609118470214394623) (lookC (idxCubQ 0 4609118470214394623)) 4608263282710586328 24 i:=by
  have:=chunkK_is lookCub24_0 (i - (-29)).toNat (by omega)
  rwa [show (-29:Int)+((i - (-29)).toNat:Int)=i from by omega] at this
theorem factCub25 (i:Int) (h1:-28≤i) (h2:i≤28):FactK (lowerCubQ 0 4608850239697556832) (lookC (idxCubQ 0 4608850239697556832)) 4608308318706860032 25 i:=by
  have:=chunkK_is lookCub25_0 (i - (-28)).toNat (by omega)
  rwa [show (-28:Int)+((i - (-28)).toNat:Int)=i from by omega] at this
theorem factCub26 (i:Int) (h1:-27≤i) (h2:i≤27):FactK (lowerCubQ 0 4608602194116333181) (lookC (idxCubQ 0 4608602194116333181)) 4608353354703133737 26 i:=by
  have:=chunkK_is lookCub26_0 (i - (-27)).toNat (by omega)
  rwa [show (-27:Int)+((i - (-27)).toNat:Int)=i from by omega] at this
theorem factCub27 (i:Int) (h1:-26≤i) (h2:i≤26):FactK (lowerCubQ 0 4608372086911506681) (lookC (idxCubQ 0 4608372086911506681)) 4608398390699407442 27 i:=by
  have:=chunkK_is lookCub27_0 (i - (-26)).toNat (by omega)
  rwa [show (-26:Int)+((i - (-26)).toNat:Int)=i from by omega] at this
theorem factCub28 (i:Int) (h1:-25≤i) (h2:i≤25):FactK (lowerCubQ 0 4608157992261696018) (lookC (idxCubQ 0 4608157992261696018)) 4608443426695681147 28 i:=by
  have:=chunkK_is lookCub28_0 (i - (-25)).toNat (by omega)
  rwa [show (-25:Int)+((i - (-25)).toNat:Int)=i from by omega] at this
theorem factCub29 (i:Int) (h1:-24≤i) (h2:i≤24):FactK (lowerCubQ 0 4607958249776279136) (lookC (idxCubQ 0 4607958249776279136)) 4608488462691954852 29 i:=by
  have:=chunkK_is lookCub29_0 (i - (-24)).toNat (by omega)
  rwa [show (-24:Int)+((i - (-24)).toNat:Int)=i from by omega] at this
theorem factCub30 (i:Int) (h1:-23≤i) (h2:i≤23):FactK (lowerCubQ 0 4607771420249202005) (lookC (idxCubQ 0 4607771420249202005)) 4608533498688228558 30 i:=by
  have:=chunkK_is lookCub30_0 (i - (-23)).toNat (by omega)
  rwa [show (-23:Int)+((i - (-23)).toNat:Int)=i from by omega] at this
theorem factCub31 (i:Int) (h1:-22≤i) (h2:i≤22):FactK (lowerCubQ 0 4607596249976015162) (lookC (idxCubQ 0 4607596249976015162)) 4608578534684502262 31 i:=by
  have:=chunkK_is lookCub31_0 (i - (-22)).toNat (by omega)
  rwa [show (-22:Int)+((i - (-22)).toNat:Int)=i from by omega] at this
theorem factCub32 (i:Int) (h1:-22≤i) (h2:i≤22):FactK (lowerCubQ 0 4607431641760891239) (lookC (idxCubQ 0 4607431641760891239)) 4608623570680775967 32 i:=by
  have:=chunkK_is lookCub32_0 (i - (-22)).toNat (by omega)
  rwa [show (-22:Int)+((i - (-22)).toNat:Int)=i from by omega] at this
theorem factCub33 (i:Int) (h1:-21≤i) (h2:i≤21):FactK (lowerCubQ 0 4607276631194493193) (lookC (idxCubQ 0 4607276631194493193)) 4608668606677049672 33 i:=by
  have:=chunkK_is lookCub33_0 (i - (-21)).toNat (by omega)
  rwa [show (-21:Int)+((i - (-21)).toNat:Int)=i from by omega] at this
theorem factCub34 (i:Int) (h1:-20≤i) (h2:i≤20):FactK (lowerCubQ 0 4607078315434925930) (lookC (idxCubQ 0 4607078315434925930)) 4608713642673323377 34 i:=by
  have:=chunkK_is lookCub34_0 (i - (-20)).toNat (by omega)
  rwa [show (-20:Int)+((i - (-20)).toNat:Int)=i from by omega] at this
theorem factCub35 (i:Int) (h1:-20≤i) (h2:i≤20):FactK (lowerCubQ 0 4606801772064814438) (lookC (idxCubQ 0 4606801772064814438)) 4608758678669597082 35 i:=by
  have:=chunkK_is lookCub35_0 (i - (-20)).toNat (by omega)
  rwa [show (-20:Int)+((i - (-20)).toNat:Int)=i from by omega] at this
theorem factCub36 (i:Int) (h1:-19≤i) (h2:i≤19):FactK (lowerCubQ 0 4606539872426216114) (lookC (idxCubQ 0 4606539872426216114)) 4608803714665870786 36 i:=by
  have:=chunkK_is lookCub36_0 (i - (-19)).toNat (by omega)
  rwa [show (-19:Int)+((i - (-19)).toNat:Int)=i from by omega] at this
theorem factCub37 (i:Int) (h1:-18≤i) (h2:i≤18):FactK (lowerCubQ 0 4606291420001546169) (lookC (idxCubQ 0 4606291420001546169)) 4608848750662144492 37 i:=by
  have:=chunkK_is lookCub37_0 (i - (-18)).toNat (by omega)
  rwa [show (-18:Int)+((i - (-18)).toNat:Int)=i from by omega] at this
theorem factCub38 (i:Int) (h1:-18≤i) (h2:i≤18):FactK (lowerCubQ 0 4606055343768545657) (lookC (idxCubQ 0 4606055343768545657)) 4608893786658418196 38 i:=by
  have:=chunkK_is lookCub38_0 (i - (-18)).toNat (by omega)
  rwa [show (-18:Int)+((i - (-18)).toNat:Int)=i from by omega] at this
theorem factCub39 (i:Int) (h1:-17≤i) (h2:i≤17):FactK (lowerCubQ 0 4605830682088280362) (lookC (idxCubQ 0 4605830682088280362)) 4608938822654691902 39 i:=by
  have:=chunkK_is lookCub39_0 (i - (-17)).toNat (by omega)
  rwa [show (-17:Int)+((i - (-17)).toNat:Int)=i from by omega] at this
theorem factCub40 (i:Int) (h1:-17≤i) (h2:i≤17):FactK (lowerCubQ 0 4605616569008188285) (lookC (idxCubQ 0 4605616569008188285)) 4608983858650965606 40 i:=by
  have:=chunkK_is lookCub40_0 (i - (-17)).toNat (by omega)
  rwa [show (-17:Int)+((i - (-17)).toNat:Int)=i from by omega] at this
theorem factCub41 (i:Int) (h1:-17≤i) (h2:i≤17):FactK (lowerCubQ 0 4605412222567693473) (lookC (idxCubQ 0 4605412222567693473)) 4609028894647239311 41 i:=by
  have:=chunkK_is lookCub41_0 (i - (-17)).toNat (by omega)
  rwa [show (-17:Int)+((i - (-17)).toNat:Int)=i from by omega] at this
theorem factCub42 (i:Int) (h1:-16≤i) (h2:i≤16):FactK (lowerCubQ 0 4605216934772454814) (lookC (idxCubQ 0 4605216934772454814)) 4609073930643513016 42 i:=by
  have:=chunkK_is lookCub42_0 (i - (-16)).toNat (by omega)
  rwa [show (-16:Int)+((i - (-16)).toNat:Int)=i from by omega] at this
theorem factCub43 (i:Int) (h1:-16≤i) (h2:i≤16):FactK (lowerCubQ 0 4605030062965425972) (lookC (idxCubQ 0 4605030062965425972)) 4609118966639786721 43 i:=by
  have:=chunkK_is lookCub43_0 (i - (-16)).toNat (by omega)
  rwa [show (-16:Int)+((i - (-16)).toNat:Int)=i from by omega] at this
theorem factCub44 (i:Int) (h1:-15≤i) (h2:i≤15):FactK (lowerCubQ 0 4604851022372303914) (lookC (idxCubQ 0 4604851022372303914)) 4609164002636060426 44 i:=by
  have:=chunkK_is lookCub44_0 (i - (-15)).toNat (by omega)
  rwa [show (-15:Int)+((i - (-15)).toNat:Int)=i from by omega] at this
theorem factCub45 (i:Int) (h1:-15≤i) (h2:i≤15):FactK (lowerCubQ 0 4604679279638461672) (lookC (idxCubQ 0 4604679279638461672)) 4609209038632334131 45 i:=by
  have:=chunkK_is lookCub45_0 (i - (-15)).toNat (by omega)
  rwa [show (-15:Int)+((i - (-15)).toNat:Int)=i from by omega] at this
theorem factCub46 (i:Int) (h1:-15≤i) (h2:i≤15):FactK (lowerCubQ 0 4604514347206244163) (lookC (idxCubQ 0 4604514347206244163)) 4609254074628607836 46 i:=by
  have:=chunkK_is lookCub46_0 (i - (-15)).toNat (by omega)
  rwa [show (-15:Int)+((i - (-15)).toNat:Int)=i from by omega] at this
theorem factCub47 (i:Int) (h1:-14≤i) (h2:i≤14):FactK (lowerCubQ 0 4604355778407199267) (lookC (idxCubQ 0 4604355778407199267)) 4609299110624881541 47 i:=by
  have:=chunkK_is lookCub47_0 (i - (-14)).toNat (by omega)
  rwa [show (-14:Int)+((i - (-14)).toNat:Int)=i from by omega] at this
theorem factCub48 (i:Int) (h1:-14≤i) (h2:i≤14):FactK (lowerCubQ 0 4604203163164688057) (lookC (idxCubQ 0 4604203163164688057)) 4609344146621155246 48 i:=by
  have:=chunkK_is lookCub48_0 (i - (-14)).toNat (by omega)
  rwa [show (-14:Int)+((i - (-14)).toNat:Int)=i from by omega] at this
theorem factCub49 (i:Int) (h1:-14≤i) (h2:i≤14):FactK (lowerCubQ 0 4604056124219351505) (lookC (idxCubQ 0 4604056124219351505)) 4609389182617428950 49 i:=by
  have:=chunkK_is lookCub49_0 (i - (-14)).toNat (by omega)
  rwa [show (-14:Int)+((i - (-14)).toNat:Int)=i from by omega] at this
theorem factCub50 (i:Int) (h1:-13≤i) (h2:i≤13):FactK (lowerCubQ 0 4603914313803872903) (lookC (idxCubQ 0 4603914313803872903)) 4609434218613702656 50 i:=by
  have:=chunkK_is lookCub50_0 (i - (-13)).toNat (by omega)
  rwa [show (-13:Int)+((i - (-13)).toNat:Int)=i from by omega] at this
end Go.Proofs.YtllaekopaglolaaGreat
end
/-
  The cubically interpolated mapping of each accuracy: what it is made of. (Printed by gen_par.py.)
-/
section
namespace Go.Proofs.YtllaekopaglolaaGreat
set_option maxRecDepth 100000
set_option exponentiation.threshold 5000
theorem parCub1:parLook ofCubQ accCubQ (idxCubQ 0 4630122465203820715) 4576918229304087675 0 4630122465203820715 4607227454796291113 (-698) (697)=true:=by decide +kernel
theorem parCub2:parLook ofCubQ accCubQ (idxCubQ 0 4625618372929549045) 4581421828931458171 0 4625618372929549045 4607272490792564818 (-349) (348)=true:=by decide +kernel
theorem parCub3:parLook ofCubQ accCubQ (idxCubQ 0 4622755396713402374) 4584304132692975288 0 4622755396713402374 4607317526788838522 (-233) (232)=true:=by decide +kernel
theorem parCub4:parLook ofCubQ accCubQ (idxCubQ 0 4621112801925575940) 4585925428558828667 0 4621112801925575940 4607362562785112228 (-175) (174)=true:=by decide +kernel
theorem parCub5:parLook ofCubQ accCubQ (idxCubQ 0 4619560745641586986) 4587366580439587226 0 4619560745641586986 4607407598781385934 (-140) (139)=true:=by decide +kernel
theorem parCub6:parLook ofCubQ accCubQ (idxCubQ 0 4618245879004273790) 4588807732320345784 0 4618245879004273790 4607452634777659638 (-117) (116)=true:=by decide +kernel
theorem parCub7:parLook ofCubQ accCubQ (idxCubQ 0 4617306311066822985) 4589708452245819884 0 4617306311066822985 4607497670773933342 (-100) (99)=true:=by decide +kernel
theorem parCub8:parLook ofCubQ accCubQ (idxCubQ 0 4616601304125985925) 4590429028186199163 0 4616601304125985925 4607542706770207048 (-88) (87)=true:=by decide +kernel
theorem parCub9:parLook ofCubQ accCubQ (idxCubQ 0 4615915722888765488) 4591149604126578442 0 4615915722888765488 4607587742766480753 (-78) (77)=true:=by decide +kernel
theorem parCub10:parLook ofCubQ accCubQ (idxCubQ 0 4615037376724738279) 4591870180066957722 0 4615037376724738279 4607632778762754458 (-70) (69)=true:=by decide +kernel
theorem parCub11:parLook ofCubQ accCubQ (idxCubQ 0 4614318244451207764) 4592590756007337001 0 4614318244451207764 4607677814759028163 (-64) (63)=true:=by decide +kernel
theorem parCub12:parLook ofCubQ accCubQ (idxCubQ 0 4613718521080719513) 4593311331947716280 0 4613718521080719513 4607722850755301868 (-58) (57)=true:=by decide +kernel
theorem parCub13:parLook ofCubQ accCubQ (idxCubQ 0 4613210649172132344) 4593851763903000740 0 4613210649172132344 4607767886751575572 (-54) (53)=true:=by decide +kernel
theorem parCub14:parLook ofCubQ accCubQ (idxCubQ 0 4612774944704581373) 4594212051873190380 0 4612774944704581373 4607812922747849278 (-50) (49)=true:=by decide +kernel
theorem parCub15:parLook ofCubQ accCubQ (idxCubQ 0 4612396972601629667) 4594572339843380019 0 4612396972601629667 4607857958744122982 (-47) (46)=true:=by decide +kernel
theorem parCub16:parLook ofCubQ accCubQ (idxCubQ 0 4612065906433642013) 4594932627813569659 0 4612065906433642013 4607902994740396688 (-44) (43)=true:=by decide +kernel
theorem parCub17:parLook ofCubQ accCubQ (idxCubQ 0 4611773467048515453) 4595292915783759299 0 4611773467048515453 4607948030736670392 (-41) (40)=true:=by decide +kernel
theorem parCub18:parLook ofCubQ accCubQ (idxCubQ 0 4611340411556514795) 4595653203753948938 0 4611340411556514795 4607993066732944096 (-39) (38)=true:=by decide +kernel
theorem parCub19:parLook ofCubQ accCubQ (idxCubQ 0 4610874114320099329) 4596013491724138578 0 4610874114320099329 4608038102729217802 (-37) (36)=true:=by decide +kernel
theorem parCub20:parLook ofCubQ accCubQ (idxCubQ 0 4610453889520545655) 4596373779694328218 0 4610453889520545655 4608083138725491507 (-35) (34)=true:=by decide +kernel
theorem parCub21:parLook ofCubQ accCubQ (idxCubQ 0 4610073151924117705) 4596734067664517857 0 4610073151924117705 4608128174721765212 (-33) (32)=true:=by decide +kernel
theorem parCub22:parLook ofCubQ accCubQ (idxCubQ 0 4609726513404981989) 4597094355634707497 0 4609726513404981989 4608173210718038917 (-32) (31)=true:=by decide +kernel
theorem parCub23:parLook ofCubQ accCubQ (idxCubQ 0 4609409522698264074) 4597454643604897137 0 4609409522698264074 4608218246714312622 (-30) (29)=true:=by decide +kernel
theorem parCub24:parLook ofCubQ accCubQ (idxCubQ 0 4609118470214394623) 4597814931575086776 0 4609118470214394623 4608263282710586328 (-29) (28)=true:=by decide +kernel
theorem parCub25:parLook ofCubQ accCubQ (idxCubQ 0 4608850239697556832) 4598175219545276416 0 4608850239697556832 4608308318706860032 (-28) (27)=true:=by decide +kernel
theorem parCub26:parLook ofCubQ accCubQ (idxCubQ 0 4608602194116333181) 4598355363530371236 0 4608602194116333181 4608353354703133737 (-27) (26)=true:=by decide +kernel
theorem parCub27:parLook ofCubQ accCubQ (idxCubQ 0 4608372086911506681) 4598535507515466056 0 4608372086911506681 4608398390699407442 (-26) (25)=true:=by decide +kernel
theorem parCub28:parLook ofCubQ accCubQ (idxCubQ 0 4608157992261696018) 4598715651500560876 0 4608157992261696018 4608443426695681147 (-25) (24)=true:=by decide +kernel
theorem parCub29:parLook ofCubQ accCubQ (idxCubQ 0 4607958249776279136) 4598895795485655695 0 4607958249776279136 4608488462691954852 (-24) (23)=true:=by decide +kernel
theorem parCub30:parLook ofCubQ accCubQ (idxCubQ 0 4607771420249202005) 4599075939470750515 0 4607771420249202005 4608533498688228558 (-23) (22)=true:=by decide +kernel
theorem parCub31:parLook ofCubQ accCubQ (idxCubQ 0 4607596249976015162) 4599256083455845335 0 4607596249976015162 4608578534684502262 (-22) (21)=true:=by decide +kernel
theorem parCub32:parLook ofCubQ accCubQ (idxCubQ 0 4607431641760891239) 4599436227440940155 0 4607431641760891239 4608623570680775967 (-22) (21)=true:=by decide +kernel
theorem parCub33:parLook ofCubQ accCubQ (idxCubQ 0 4607276631194493193) 4599616371426034975 0 4607276631194493193 4608668606677049672 (-21) (20)=true:=by decide +kernel
theorem parCub34:parLook ofCubQ accCubQ (idxCubQ 0 4607078315434925930) 4599796515411129795 0 4607078315434925930 4608713642673323377 (-20) (19)=true:=by decide +kernel
theorem parCub35:parLook ofCubQ accCubQ (idxCubQ 0 4606801772064814438) 4599976659396224614 0 4606801772064814438 4608758678669597082 (-20) (19)=true:=by decide +kernel
theorem parCub36:parLook ofCubQ accCubQ (idxCubQ 0 4606539872426216114) 4600156803381319434 0 4606539872426216114 4608803714665870786 (-19) (18)=true:=by decide +kernel
theorem parCub37:parLook ofCubQ accCubQ (idxCubQ 0 4606291420001546169) 4600336947366414254 0 4606291420001546169 4608848750662144492 (-18) (17)=true:=by decide +kernel
theorem parCub38:parLook ofCubQ accCubQ (idxCubQ 0 4606055343768545657) 4600517091351509074 0 4606055343768545657 4608893786658418196 (-18) (17)=true:=by decide +kernel
theorem parCub39:parLook ofCubQ accCubQ (idxCubQ 0 4605830682088280362) 4600697235336603894 0 4605830682088280362 4608938822654691902 (-17) (16)=true:=by decide +kernel
theorem parCub40:parLook ofCubQ accCubQ (idxCubQ 0 4605616569008188285) 4600877379321698714 0 4605616569008188285 4608983858650965606 (-17) (16)=true:=by decide +kernel
theorem parCub41:parLook ofCubQ accCubQ (idxCubQ 0 4605412222567693473) 4601057523306793533 0 4605412222567693473 4609028894647239311 (-17) (16)=true:=by decide +kernel
theorem parCub42:parLook ofCubQ accCubQ (idxCubQ 0 4605216934772454814) 4601237667291888353 0 4605216934772454814 4609073930643513016 (-16) (15)=true:=by decide +kernel
theorem parCub43:parLook ofCubQ accCubQ (idxCubQ 0 4605030062965425972) 4601417811276983173 0 4605030062965425972 4609118966639786721 (-16) (15)=true:=by decide +kernel
theorem parCub44:parLook ofCubQ accCubQ (idxCubQ 0 4604851022372303914) 4601597955262077993 0 4604851022372303914 4609164002636060426 (-15) (14)=true:=by decide +kernel
theorem parCub45:parLook ofCubQ accCubQ (idxCubQ 0 4604679279638461672) 4601778099247172813 0 4604679279638461672 4609209038632334131 (-15) (14)=true:=by decide +kernel
theorem parCub46:parLook ofCubQ accCubQ (idxCubQ 0 4604514347206244163) 4601958243232267633 0 4604514347206244163 4609254074628607836 (-15) (14)=true:=by decide +kernel
theorem parCub47:parLook ofCubQ accCubQ (idxCubQ 0 4604355778407199267) 4602138387217362452 0 4604355778407199267 4609299110624881541 (-14) (13)=true:=by decide +kernel
theorem parCub48:parLook ofCubQ accCubQ (idxCubQ 0 4604203163164688057) 4602318531202457272 0 4604203163164688057 4609344146621155246 (-14) (13)=true:=by decide +kernel
theorem parCub49:parLook ofCubQ accCubQ (idxCubQ 0 4604056124219351505) 4602498675187552092 0 4604056124219351505 4609389182617428950 (-14) (13)=true:=by decide +kernel
theorem parCub50:parLook ofCubQ accCubQ (idxCubQ 0 4603914313803872903) 4602678819172646912 0 4603914313803872903 4609434218613702656 (-13) (12)=true:=by decide +kernel
end Go.Proofs.YtllaekopaglolaaGreat
end
