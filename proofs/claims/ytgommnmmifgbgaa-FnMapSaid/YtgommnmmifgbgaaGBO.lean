/-
  The cubically interpolated mapping: what the looks tell, for each hundredth. (Printed by gen_chk.py.)
-/
import Derived.Test.YtgommnmmifgbgaaGBG
import Derived.Test.YtgommnmmifgbgaaGBH
import Derived.Test.YtgommnmmifgbgaaGBI
import Derived.Test.YtgommnmmifgbgaaGBJ
import Derived.Test.YtgommnmmifgbgaaGBK
import Derived.Test.YtgommnmmifgbgaaGBL
import Derived.Test.YtgommnmmifgbgaaGBM
import Derived.Test.YtgommnmmifgbgaaGBN
import Derived.Test.YtgommnmmifgbgaaGAM
import Derived.Test.YtgommnmmifgbgaaGAQ
section
namespace Go.Proofs.Ytgommnmmifgbgaa
set_option maxRecDepth 100000
set_option exponentiation.threshold 5000

theorem factCub1 (i : Int) (h1 : -698 ≤ i) (h2 : i ≤ 698) : FactK (lowerCubQ 0 4630122465203820715) (lookC (idxCubQ 0 4630122465203820715)) 4607227454796291113 1 i := by
  by_cases c0 : i < -448
  · have := chunkK_is lookCub1_0 (i - (-698)).toNat (by omega)
    rwa [show (-698 : Int) + ((i - (-698)).toNat : Int) = i from by omega] at this
  by_cases c1 : i < -198
  · have := chunkK_is lookCub1_1 (i - (-448)).toNat (by omega)
    rwa [show (-448 : Int) + ((i - (-448)).toNat : Int) = i from by omega] at this
  by_cases c2 : i < 52
  · have := chunkK_is lookCub1_2 (i - (-198)).toNat (by omega)
    rwa [show (-198 : Int) + ((i - (-198)).toNat : Int) = i from by omega] at this
  by_cases c3 : i < 302
  · have := chunkK_is lookCub1_3 (i - (52)).toNat (by omega)
    rwa [show (52 : Int) + ((i - (52)).toNat : Int) = i from by omega] at this
  by_cases c4 : i < 552
  · have := chunkK_is lookCub1_4 (i - (302)).toNat (by omega)
    rwa [show (302 : Int) + ((i - (302)).toNat : Int) = i from by omega] at this
  have := chunkK_is lookCub1_5 (i - (552)).toNat (by omega)
  rwa [show (552 : Int) + ((i - (552)).toNat : Int) = i from by omega] at this
theorem factCub2 (i : Int) (h1 : -349 ≤ i) (h2 : i ≤ 349) : FactK (lowerCubQ 0 4625618372929549045) (lookC (idxCubQ 0 4625618372929549045)) 4607272490792564818 2 i := by
  by_cases c0 : i < -99
  · have := chunkK_is lookCub2_0 (i - (-349)).toNat (by omega)
    rwa [show (-349 : Int) + ((i - (-349)).toNat : Int) = i from by omega] at this
  by_cases c1 : i < 151
  · have := chunkK_is lookCub2_1 (i - (-99)).toNat (by omega)
    rwa [show (-99 : Int) + ((i - (-99)).toNat : Int) = i from by omega] at this
  have := chunkK_is lookCub2_2 (i - (151)).toNat (by omega)
  rwa [show (151 : Int) + ((i - (151)).toNat : Int) = i from by omega] at this
theorem factCub3 (i : Int) (h1 : -233 ≤ i) (h2 : i ≤ 233) : FactK (lowerCubQ 0 4622755396713402374) (lookC (idxCubQ 0 4622755396713402374)) 4607317526788838522 3 i := by
  by_cases c0 : i < 17
  · have := chunkK_is lookCub3_0 (i - (-233)).toNat (by omega)
    rwa [show (-233 : Int) + ((i - (-233)).toNat : Int) = i from by omega] at this
  have := chunkK_is lookCub3_1 (i - (17)).toNat (by omega)
  rwa [show (17 : Int) + ((i - (17)).toNat : Int) = i from by omega] at this
theorem factCub4 (i : Int) (h1 : -175 ≤ i) (h2 : i ≤ 175) : FactK (lowerCubQ 0 4621112801925575940) (lookC (idxCubQ 0 4621112801925575940)) 4607362562785112228 4 i := by
  by_cases c0 : i < 75
  · have := chunkK_is lookCub4_0 (i - (-175)).toNat (by omega)
    rwa [show (-175 : Int) + ((i - (-175)).toNat : Int) = i from by omega] at this
  have := chunkK_is lookCub4_1 (i - (75)).toNat (by omega)
  rwa [show (75 : Int) + ((i - (75)).toNat : Int) = i from by omega] at this
theorem factCub5 (i : Int) (h1 : -140 ≤ i) (h2 : i ≤ 140) : FactK (lowerCubQ 0 4619560745641586986) (lookC (idxCubQ 0 4619560745641586986)) 4607407598781385934 5 i := by
  by_cases c0 : i < 110
  · have := chunkK_is lookCub5_0 (i - (-140)).toNat (by omega)
    rwa [show (-140 : Int) + ((i - (-140)).toNat : Int) = i from by omega] at this
  have := chunkK_is lookCub5_1 (i - (110)).toNat (by omega)
  rwa [show (110 : Int) + ((i - (110)).toNat : Int) = i from by omega] at this
theorem factCub6 (i : Int) (h1 : -117 ≤ i) (h2 : i ≤ 117) : FactK (lowerCubQ 0 4618245879004273790) (lookC (idxCubQ 0 4618245879004273790)) 4607452634777659638 6 i := by
  have := chunkK_is lookCub6_0 (i - (-117)).toNat (by omega)
  rwa [show (-117 : Int) + ((i - (-117)).toNat : Int) = i from by omega] at this
theorem factCub7 (i : Int) (h1 : -100 ≤ i) (h2 : i ≤ 100) : FactK (lowerCubQ 0 4617306311066822985) (lookC (idxCubQ 0 4617306311066822985)) 4607497670773933342 7 i := by
  have := chunkK_is lookCub7_0 (i - (-100)).toNat (by omega)
  rwa [show (-100 : Int) + ((i - (-100)).toNat : Int) = i from by omega] at this
theorem factCub8 (i : Int) (h1 : -88 ≤ i) (h2 : i ≤ 88) : FactK (lowerCubQ 0 4616601304125985925) (lookC (idxCubQ 0 4616601304125985925)) 4607542706770207048 8 i := by
  have := chunkK_is lookCub8_0 (i - (-88)).toNat (by omega)
  rwa [show (-88 : Int) + ((i - (-88)).toNat : Int) = i from by omega] at this
theorem factCub9 (i : Int) (h1 : -78 ≤ i) (h2 : i ≤ 78) : FactK (lowerCubQ 0 4615915722888765488) (lookC (idxCubQ 0 4615915722888765488)) 4607587742766480753 9 i := by
  have := chunkK_is lookCub9_0 (i - (-78)).toNat (by omega)
  rwa [show (-78 : Int) + ((i - (-78)).toNat : Int) = i from by omega] at this
theorem factCub10 (i : Int) (h1 : -70 ≤ i) (h2 : i ≤ 70) : FactK (lowerCubQ 0 4615037376724738279) (lookC (idxCubQ 0 4615037376724738279)) 4607632778762754458 10 i := by
  have := chunkK_is lookCub10_0 (i - (-70)).toNat (by omega)
  rwa [show (-70 : Int) + ((i - (-70)).toNat : Int) = i from by omega] at this
theorem factCub11 (i : Int) (h1 : -64 ≤ i) (h2 : i ≤ 64) : FactK (lowerCubQ 0 4614318244451207764) (lookC (idxCubQ 0 4614318244451207764)) 4607677814759028163 11 i := by
  have := chunkK_is lookCub11_0 (i - (-64)).toNat (by omega)
  rwa [show (-64 : Int) + ((i - (-64)).toNat : Int) = i from by omega] at this
theorem factCub12 (i : Int) (h1 : -58 ≤ i) (h2 : i ≤ 58) : FactK (lowerCubQ 0 4613718521080719513) (lookC (idxCubQ 0 4613718521080719513)) 4607722850755301868 12 i := by
  have := chunkK_is lookCub12_0 (i - (-58)).toNat (by omega)
  rwa [show (-58 : Int) + ((i - (-58)).toNat : Int) = i from by omega] at this
theorem factCub13 (i : Int) (h1 : -54 ≤ i) (h2 : i ≤ 54) : FactK (lowerCubQ 0 4613210649172132344) (lookC (idxCubQ 0 4613210649172132344)) 4607767886751575572 13 i := by
  have := chunkK_is lookCub13_0 (i - (-54)).toNat (by omega)
  rwa [show (-54 : Int) + ((i - (-54)).toNat : Int) = i from by omega] at this
theorem factCub14 (i : Int) (h1 : -50 ≤ i) (h2 : i ≤ 50) : FactK (lowerCubQ 0 4612774944704581373) (lookC (idxCubQ 0 4612774944704581373)) 4607812922747849278 14 i := by
  have := chunkK_is lookCub14_0 (i - (-50)).toNat (by omega)
  rwa [show (-50 : Int) + ((i - (-50)).toNat : Int) = i from by omega] at this
theorem factCub15 (i : Int) (h1 : -47 ≤ i) (h2 : i ≤ 47) : FactK (lowerCubQ 0 4612396972601629667) (lookC (idxCubQ 0 4612396972601629667)) 4607857958744122982 15 i := by
  have := chunkK_is lookCub15_0 (i - (-47)).toNat (by omega)
  rwa [show (-47 : Int) + ((i - (-47)).toNat : Int) = i from by omega] at this
theorem factCub16 (i : Int) (h1 : -44 ≤ i) (h2 : i ≤ 44) : FactK (lowerCubQ 0 4612065906433642013) (lookC (idxCubQ 0 4612065906433642013)) 4607902994740396688 16 i := by
  have := chunkK_is lookCub16_0 (i - (-44)).toNat (by omega)
  rwa [show (-44 : Int) + ((i - (-44)).toNat : Int) = i from by omega] at this
theorem factCub17 (i : Int) (h1 : -41 ≤ i) (h2 : i ≤ 41) : FactK (lowerCubQ 0 4611773467048515453) (lookC (idxCubQ 0 4611773467048515453)) 4607948030736670392 17 i := by
  have := chunkK_is lookCub17_0 (i - (-41)).toNat (by omega)
  rwa [show (-41 : Int) + ((i - (-41)).toNat : Int) = i from by omega] at this
theorem factCub18 (i : Int) (h1 : -39 ≤ i) (h2 : i ≤ 39) : FactK (lowerCubQ 0 4611340411556514795) (lookC (idxCubQ 0 4611340411556514795)) 4607993066732944096 18 i := by
  have := chunkK_is lookCub18_0 (i - (-39)).toNat (by omega)
  rwa [show (-39 : Int) + ((i - (-39)).toNat : Int) = i from by omega] at this
theorem factCub19 (i : Int) (h1 : -37 ≤ i) (h2 : i ≤ 37) : FactK (lowerCubQ 0 4610874114320099329) (lookC (idxCubQ 0 4610874114320099329)) 4608038102729217802 19 i := by
  have := chunkK_is lookCub19_0 (i - (-37)).toNat (by omega)
  rwa [show (-37 : Int) + ((i - (-37)).toNat : Int) = i from by omega] at this
theorem factCub20 (i : Int) (h1 : -35 ≤ i) (h2 : i ≤ 35) : FactK (lowerCubQ 0 4610453889520545655) (lookC (idxCubQ 0 4610453889520545655)) 4608083138725491507 20 i := by
  have := chunkK_is lookCub20_0 (i - (-35)).toNat (by omega)
  rwa [show (-35 : Int) + ((i - (-35)).toNat : Int) = i from by omega] at this
theorem factCub21 (i : Int) (h1 : -33 ≤ i) (h2 : i ≤ 33) : FactK (lowerCubQ 0 4610073151924117705) (lookC (idxCubQ 0 4610073151924117705)) 4608128174721765212 21 i := by
  have := chunkK_is lookCub21_0 (i - (-33)).toNat (by omega)
  rwa [show (-33 : Int) + ((i - (-33)).toNat : Int) = i from by omega] at this
theorem factCub22 (i : Int) (h1 : -32 ≤ i) (h2 : i ≤ 32) : FactK (lowerCubQ 0 4609726513404981989) (lookC (idxCubQ 0 4609726513404981989)) 4608173210718038917 22 i := by
  have := chunkK_is lookCub22_0 (i - (-32)).toNat (by omega)
  rwa [show (-32 : Int) + ((i - (-32)).toNat : Int) = i from by omega] at this
theorem factCub23 (i : Int) (h1 : -30 ≤ i) (h2 : i ≤ 30) : FactK (lowerCubQ 0 4609409522698264074) (lookC (idxCubQ 0 4609409522698264074)) 4608218246714312622 23 i := by
  have := chunkK_is lookCub23_0 (i - (-30)).toNat (by omega)
  rwa [show (-30 : Int) + ((i - (-30)).toNat : Int) = i from by omega] at this
theorem factCub24 (i : Int) (h1 : -29 ≤ i) (h2 : i ≤ 29) : FactK (lowerCubQ 0 4609118470214394623) (lookC (idxCubQ 0 4609118470214394623)) 4608263282710586328 24 i := by
  have := chunkK_is lookCub24_0 (i - (-29)).toNat (by omega)
  rwa [show (-29 : Int) + ((i - (-29)).toNat : Int) = i from by omega] at this
theorem factCub25 (i : Int) (h1 : -28 ≤ i) (h2 : i ≤ 28) : FactK (lowerCubQ 0 4608850239697556832) (lookC (idxCubQ 0 4608850239697556832)) 4608308318706860032 25 i := by
  have := chunkK_is lookCub25_0 (i - (-28)).toNat (by omega)
  rwa [show (-28 : Int) + ((i - (-28)).toNat : Int) = i from by omega] at this
theorem factCub26 (i : Int) (h1 : -27 ≤ i) (h2 : i ≤ 27) : FactK (lowerCubQ 0 4608602194116333181) (lookC (idxCubQ 0 4608602194116333181)) 4608353354703133737 26 i := by
  have := chunkK_is lookCub26_0 (i - (-27)).toNat (by omega)
  rwa [show (-27 : Int) + ((i - (-27)).toNat : Int) = i from by omega] at this
theorem factCub27 (i : Int) (h1 : -26 ≤ i) (h2 : i ≤ 26) : FactK (lowerCubQ 0 4608372086911506681) (lookC (idxCubQ 0 4608372086911506681)) 4608398390699407442 27 i := by
  have := chunkK_is lookCub27_0 (i - (-26)).toNat (by omega)
  rwa [show (-26 : Int) + ((i - (-26)).toNat : Int) = i from by omega] at this
theorem factCub28 (i : Int) (h1 : -25 ≤ i) (h2 : i ≤ 25) : FactK (lowerCubQ 0 4608157992261696018) (lookC (idxCubQ 0 4608157992261696018)) 4608443426695681147 28 i := by
  have := chunkK_is lookCub28_0 (i - (-25)).toNat (by omega)
  rwa [show (-25 : Int) + ((i - (-25)).toNat : Int) = i from by omega] at this
theorem factCub29 (i : Int) (h1 : -24 ≤ i) (h2 : i ≤ 24) : FactK (lowerCubQ 0 4607958249776279136) (lookC (idxCubQ 0 4607958249776279136)) 4608488462691954852 29 i := by
  have := chunkK_is lookCub29_0 (i - (-24)).toNat (by omega)
  rwa [show (-24 : Int) + ((i - (-24)).toNat : Int) = i from by omega] at this
theorem factCub30 (i : Int) (h1 : -23 ≤ i) (h2 : i ≤ 23) : FactK (lowerCubQ 0 4607771420249202005) (lookC (idxCubQ 0 4607771420249202005)) 4608533498688228558 30 i := by
  have := chunkK_is lookCub30_0 (i - (-23)).toNat (by omega)
  rwa [show (-23 : Int) + ((i - (-23)).toNat : Int) = i from by omega] at this
theorem factCub31 (i : Int) (h1 : -22 ≤ i) (h2 : i ≤ 22) : FactK (lowerCubQ 0 4607596249976015162) (lookC (idxCubQ 0 4607596249976015162)) 4608578534684502262 31 i := by
  have := chunkK_is lookCub31_0 (i - (-22)).toNat (by omega)
  rwa [show (-22 : Int) + ((i - (-22)).toNat : Int) = i from by omega] at this
theorem factCub32 (i : Int) (h1 : -22 ≤ i) (h2 : i ≤ 22) : FactK (lowerCubQ 0 4607431641760891239) (lookC (idxCubQ 0 4607431641760891239)) 4608623570680775967 32 i := by
  have := chunkK_is lookCub32_0 (i - (-22)).toNat (by omega)
  rwa [show (-22 : Int) + ((i - (-22)).toNat : Int) = i from by omega] at this
theorem factCub33 (i : Int) (h1 : -21 ≤ i) (h2 : i ≤ 21) : FactK (lowerCubQ 0 4607276631194493193) (lookC (idxCubQ 0 4607276631194493193)) 4608668606677049672 33 i := by
  have := chunkK_is lookCub33_0 (i - (-21)).toNat (by omega)
  rwa [show (-21 : Int) + ((i - (-21)).toNat : Int) = i from by omega] at this
theorem factCub34 (i : Int) (h1 : -20 ≤ i) (h2 : i ≤ 20) : FactK (lowerCubQ 0 4607078315434925930) (lookC (idxCubQ 0 4607078315434925930)) 4608713642673323377 34 i := by
  have := chunkK_is lookCub34_0 (i - (-20)).toNat (by omega)
  rwa [show (-20 : Int) + ((i - (-20)).toNat : Int) = i from by omega] at this
theorem factCub35 (i : Int) (h1 : -20 ≤ i) (h2 : i ≤ 20) : FactK (lowerCubQ 0 4606801772064814438) (lookC (idxCubQ 0 4606801772064814438)) 4608758678669597082 35 i := by
  have := chunkK_is lookCub35_0 (i - (-20)).toNat (by omega)
  rwa [show (-20 : Int) + ((i - (-20)).toNat : Int) = i from by omega] at this
theorem factCub36 (i : Int) (h1 : -19 ≤ i) (h2 : i ≤ 19) : FactK (lowerCubQ 0 4606539872426216114) (lookC (idxCubQ 0 4606539872426216114)) 4608803714665870786 36 i := by
  have := chunkK_is lookCub36_0 (i - (-19)).toNat (by omega)
  rwa [show (-19 : Int) + ((i - (-19)).toNat : Int) = i from by omega] at this
theorem factCub37 (i : Int) (h1 : -18 ≤ i) (h2 : i ≤ 18) : FactK (lowerCubQ 0 4606291420001546169) (lookC (idxCubQ 0 4606291420001546169)) 4608848750662144492 37 i := by
  have := chunkK_is lookCub37_0 (i - (-18)).toNat (by omega)
  rwa [show (-18 : Int) + ((i - (-18)).toNat : Int) = i from by omega] at this
theorem factCub38 (i : Int) (h1 : -18 ≤ i) (h2 : i ≤ 18) : FactK (lowerCubQ 0 4606055343768545657) (lookC (idxCubQ 0 4606055343768545657)) 4608893786658418196 38 i := by
  have := chunkK_is lookCub38_0 (i - (-18)).toNat (by omega)
  rwa [show (-18 : Int) + ((i - (-18)).toNat : Int) = i from by omega] at this
theorem factCub39 (i : Int) (h1 : -17 ≤ i) (h2 : i ≤ 17) : FactK (lowerCubQ 0 4605830682088280362) (lookC (idxCubQ 0 4605830682088280362)) 4608938822654691902 39 i := by
  have := chunkK_is lookCub39_0 (i - (-17)).toNat (by omega)
  rwa [show (-17 : Int) + ((i - (-17)).toNat : Int) = i from by omega] at this
theorem factCub40 (i : Int) (h1 : -17 ≤ i) (h2 : i ≤ 17) : FactK (lowerCubQ 0 4605616569008188285) (lookC (idxCubQ 0 4605616569008188285)) 4608983858650965606 40 i := by
  have := chunkK_is lookCub40_0 (i - (-17)).toNat (by omega)
  rwa [show (-17 : Int) + ((i - (-17)).toNat : Int) = i from by omega] at this
theorem factCub41 (i : Int) (h1 : -17 ≤ i) (h2 : i ≤ 17) : FactK (lowerCubQ 0 4605412222567693473) (lookC (idxCubQ 0 4605412222567693473)) 4609028894647239311 41 i := by
  have := chunkK_is lookCub41_0 (i - (-17)).toNat (by omega)
  rwa [show (-17 : Int) + ((i - (-17)).toNat : Int) = i from by omega] at this
theorem factCub42 (i : Int) (h1 : -16 ≤ i) (h2 : i ≤ 16) : FactK (lowerCubQ 0 4605216934772454814) (lookC (idxCubQ 0 4605216934772454814)) 4609073930643513016 42 i := by
  have := chunkK_is lookCub42_0 (i - (-16)).toNat (by omega)
  rwa [show (-16 : Int) + ((i - (-16)).toNat : Int) = i from by omega] at this
theorem factCub43 (i : Int) (h1 : -16 ≤ i) (h2 : i ≤ 16) : FactK (lowerCubQ 0 4605030062965425972) (lookC (idxCubQ 0 4605030062965425972)) 4609118966639786721 43 i := by
  have := chunkK_is lookCub43_0 (i - (-16)).toNat (by omega)
  rwa [show (-16 : Int) + ((i - (-16)).toNat : Int) = i from by omega] at this
theorem factCub44 (i : Int) (h1 : -15 ≤ i) (h2 : i ≤ 15) : FactK (lowerCubQ 0 4604851022372303914) (lookC (idxCubQ 0 4604851022372303914)) 4609164002636060426 44 i := by
  have := chunkK_is lookCub44_0 (i - (-15)).toNat (by omega)
  rwa [show (-15 : Int) + ((i - (-15)).toNat : Int) = i from by omega] at this
theorem factCub45 (i : Int) (h1 : -15 ≤ i) (h2 : i ≤ 15) : FactK (lowerCubQ 0 4604679279638461672) (lookC (idxCubQ 0 4604679279638461672)) 4609209038632334131 45 i := by
  have := chunkK_is lookCub45_0 (i - (-15)).toNat (by omega)
  rwa [show (-15 : Int) + ((i - (-15)).toNat : Int) = i from by omega] at this
theorem factCub46 (i : Int) (h1 : -15 ≤ i) (h2 : i ≤ 15) : FactK (lowerCubQ 0 4604514347206244163) (lookC (idxCubQ 0 4604514347206244163)) 4609254074628607836 46 i := by
  have := chunkK_is lookCub46_0 (i - (-15)).toNat (by omega)
  rwa [show (-15 : Int) + ((i - (-15)).toNat : Int) = i from by omega] at this
theorem factCub47 (i : Int) (h1 : -14 ≤ i) (h2 : i ≤ 14) : FactK (lowerCubQ 0 4604355778407199267) (lookC (idxCubQ 0 4604355778407199267)) 4609299110624881541 47 i := by
  have := chunkK_is lookCub47_0 (i - (-14)).toNat (by omega)
  rwa [show (-14 : Int) + ((i - (-14)).toNat : Int) = i from by omega] at this
theorem factCub48 (i : Int) (h1 : -14 ≤ i) (h2 : i ≤ 14) : FactK (lowerCubQ 0 4604203163164688057) (lookC (idxCubQ 0 4604203163164688057)) 4609344146621155246 48 i := by
  have := chunkK_is lookCub48_0 (i - (-14)).toNat (by omega)
  rwa [show (-14 : Int) + ((i - (-14)).toNat : Int) = i from by omega] at this
theorem factCub49 (i : Int) (h1 : -14 ≤ i) (h2 : i ≤ 14) : FactK (lowerCubQ 0 4604056124219351505) (lookC (idxCubQ 0 4604056124219351505)) 4609389182617428950 49 i := by
  have := chunkK_is lookCub49_0 (i - (-14)).toNat (by omega)
  rwa [show (-14 : Int) + ((i - (-14)).toNat : Int) = i from by omega] at this
theorem factCub50 (i : Int) (h1 : -13 ≤ i) (h2 : i ≤ 13) : FactK (lowerCubQ 0 4603914313803872903) (lookC (idxCubQ 0 4603914313803872903)) 4609434218613702656 50 i := by
  have := chunkK_is lookCub50_0 (i - (-13)).toNat (by omega)
  rwa [show (-13 : Int) + ((i - (-13)).toNat : Int) = i from by omega] at this
end Go.Proofs.Ytgommnmmifgbgaa
end
/-
  The cubically interpolated mapping of each accuracy: what it is made of. (Printed by gen_par.py.)
-/
section
namespace Go.Proofs.Ytgommnmmifgbgaa
set_option maxRecDepth 100000
set_option exponentiation.threshold 5000

theorem parCub1 : parLook ofCubQ accCubQ (idxCubQ 0 4630122465203820715) 4576918229304087675 0 4630122465203820715 4607227454796291113 (-698) (697) = true := by decide +kernel
theorem parCub2 : parLook ofCubQ accCubQ (idxCubQ 0 4625618372929549045) 4581421828931458171 0 4625618372929549045 4607272490792564818 (-349) (348) = true := by decide +kernel
theorem parCub3 : parLook ofCubQ accCubQ (idxCubQ 0 4622755396713402374) 4584304132692975288 0 4622755396713402374 4607317526788838522 (-233) (232) = true := by decide +kernel
theorem parCub4 : parLook ofCubQ accCubQ (idxCubQ 0 4621112801925575940) 4585925428558828667 0 4621112801925575940 4607362562785112228 (-175) (174) = true := by decide +kernel
theorem parCub5 : parLook ofCubQ accCubQ (idxCubQ 0 4619560745641586986) 4587366580439587226 0 4619560745641586986 4607407598781385934 (-140) (139) = true := by decide +kernel
theorem parCub6 : parLook ofCubQ accCubQ (idxCubQ 0 4618245879004273790) 4588807732320345784 0 4618245879004273790 4607452634777659638 (-117) (116) = true := by decide +kernel
theorem parCub7 : parLook ofCubQ accCubQ (idxCubQ 0 4617306311066822985) 4589708452245819884 0 4617306311066822985 4607497670773933342 (-100) (99) = true := by decide +kernel
theorem parCub8 : parLook ofCubQ accCubQ (idxCubQ 0 4616601304125985925) 4590429028186199163 0 4616601304125985925 4607542706770207048 (-88) (87) = true := by decide +kernel
theorem parCub9 : parLook ofCubQ accCubQ (idxCubQ 0 4615915722888765488) 4591149604126578442 0 4615915722888765488 4607587742766480753 (-78) (77) = true := by decide +kernel
theorem parCub10 : parLook ofCubQ accCubQ (idxCubQ 0 4615037376724738279) 4591870180066957722 0 4615037376724738279 4607632778762754458 (-70) (69) = true := by decide +kernel
theorem parCub11 : parLook ofCubQ accCubQ (idxCubQ 0 4614318244451207764) 4592590756007337001 0 4614318244451207764 4607677814759028163 (-64) (63) = true := by decide +kernel
theorem parCub12 : parLook ofCubQ accCubQ (idxCubQ 0 4613718521080719513) 4593311331947716280 0 4613718521080719513 4607722850755301868 (-58) (57) = true := by decide +kernel
theorem parCub13 : parLook ofCubQ accCubQ (idxCubQ 0 4613210649172132344) 4593851763903000740 0 4613210649172132344 4607767886751575572 (-54) (53) = true := by decide +kernel
theorem parCub14 : parLook ofCubQ accCubQ (idxCubQ 0 4612774944704581373) 4594212051873190380 0 4612774944704581373 4607812922747849278 (-50) (49) = true := by decide +kernel
theorem parCub15 : parLook ofCubQ accCubQ (idxCubQ 0 4612396972601629667) 4594572339843380019 0 4612396972601629667 4607857958744122982 (-47) (46) = true := by decide +kernel
theorem parCub16 : parLook ofCubQ accCubQ (idxCubQ 0 4612065906433642013) 4594932627813569659 0 4612065906433642013 4607902994740396688 (-44) (43) = true := by decide +kernel
theorem parCub17 : parLook ofCubQ accCubQ (idxCubQ 0 4611773467048515453) 4595292915783759299 0 4611773467048515453 4607948030736670392 (-41) (40) = true := by decide +kernel
theorem parCub18 : parLook ofCubQ accCubQ (idxCubQ 0 4611340411556514795) 4595653203753948938 0 4611340411556514795 4607993066732944096 (-39) (38) = true := by decide +kernel
theorem parCub19 : parLook ofCubQ accCubQ (idxCubQ 0 4610874114320099329) 4596013491724138578 0 4610874114320099329 4608038102729217802 (-37) (36) = true := by decide +kernel
theorem parCub20 : parLook ofCubQ accCubQ (idxCubQ 0 4610453889520545655) 4596373779694328218 0 4610453889520545655 4608083138725491507 (-35) (34) = true := by decide +kernel
theorem parCub21 : parLook ofCubQ accCubQ (idxCubQ 0 4610073151924117705) 4596734067664517857 0 4610073151924117705 4608128174721765212 (-33) (32) = true := by decide +kernel
theorem parCub22 : parLook ofCubQ accCubQ (idxCubQ 0 4609726513404981989) 4597094355634707497 0 4609726513404981989 4608173210718038917 (-32) (31) = true := by decide +kernel
theorem parCub23 : parLook ofCubQ accCubQ (idxCubQ 0 4609409522698264074) 4597454643604897137 0 4609409522698264074 4608218246714312622 (-30) (29) = true := by decide +kernel
theorem parCub24 : parLook ofCubQ accCubQ (idxCubQ 0 4609118470214394623) 4597814931575086776 0 4609118470214394623 4608263282710586328 (-29) (28) = true := by decide +kernel
theorem parCub25 : parLook ofCubQ accCubQ (idxCubQ 0 4608850239697556832) 4598175219545276416 0 4608850239697556832 4608308318706860032 (-28) (27) = true := by decide +kernel
theorem parCub26 : parLook ofCubQ accCubQ (idxCubQ 0 4608602194116333181) 4598355363530371236 0 4608602194116333181 4608353354703133737 (-27) (26) = true := by decide +kernel
theorem parCub27 : parLook ofCubQ accCubQ (idxCubQ 0 4608372086911506681) 4598535507515466056 0 4608372086911506681 4608398390699407442 (-26) (25) = true := by decide +kernel
theorem parCub28 : parLook ofCubQ accCubQ (idxCubQ 0 4608157992261696018) 4598715651500560876 0 4608157992261696018 4608443426695681147 (-25) (24) = true := by decide +kernel
theorem parCub29 : parLook ofCubQ accCubQ (idxCubQ 0 4607958249776279136) 4598895795485655695 0 4607958249776279136 4608488462691954852 (-24) (23) = true := by decide +kernel
theorem parCub30 : parLook ofCubQ accCubQ (idxCubQ 0 4607771420249202005) 4599075939470750515 0 4607771420249202005 4608533498688228558 (-23) (22) = true := by decide +kernel
theorem parCub31 : parLook ofCubQ accCubQ (idxCubQ 0 4607596249976015162) 4599256083455845335 0 4607596249976015162 4608578534684502262 (-22) (21) = true := by decide +kernel
theorem parCub32 : parLook ofCubQ accCubQ (idxCubQ 0 4607431641760891239) 4599436227440940155 0 4607431641760891239 4608623570680775967 (-22) (21) = true := by decide +kernel
theorem parCub33 : parLook ofCubQ accCubQ (idxCubQ 0 4607276631194493193) 4599616371426034975 0 4607276631194493193 4608668606677049672 (-21) (20) = true := by decide +kernel
theorem parCub34 : parLook ofCubQ accCubQ (idxCubQ 0 4607078315434925930) 4599796515411129795 0 4607078315434925930 4608713642673323377 (-20) (19) = true := by decide +kernel
theorem parCub35 : parLook ofCubQ accCubQ (idxCubQ 0 4606801772064814438) 4599976659396224614 0 4606801772064814438 4608758678669597082 (-20) (19) = true := by decide +kernel
theorem parCub36 : parLook ofCubQ accCubQ (idxCubQ 0 4606539872426216114) 4600156803381319434 0 4606539872426216114 4608803714665870786 (-19) (18) = true := by decide +kernel
theorem parCub37 : parLook ofCubQ accCubQ (idxCubQ 0 4606291420001546169) 4600336947366414254 0 4606291420001546169 4608848750662144492 (-18) (17) = true := by decide +kernel
theorem parCub38 : parLook ofCubQ accCubQ (idxCubQ 0 4606055343768545657) 4600517091351509074 0 4606055343768545657 4608893786658418196 (-18) (17) = true := by decide +kernel
theorem parCub39 : parLook ofCubQ accCubQ (idxCubQ 0 4605830682088280362) 4600697235336603894 0 4605830682088280362 4608938822654691902 (-17) (16) = true := by decide +kernel
theorem parCub40 : parLook ofCubQ accCubQ (idxCubQ 0 4605616569008188285) 4600877379321698714 0 4605616569008188285 4608983858650965606 (-17) (16) = true := by decide +kernel
theorem parCub41 : parLook ofCubQ accCubQ (idxCubQ 0 4605412222567693473) 4601057523306793533 0 4605412222567693473 4609028894647239311 (-17) (16) = true := by decide +kernel
theorem parCub42 : parLook ofCubQ accCubQ (idxCubQ 0 4605216934772454814) 4601237667291888353 0 4605216934772454814 4609073930643513016 (-16) (15) = true := by decide +kernel
theorem parCub43 : parLook ofCubQ accCubQ (idxCubQ 0 4605030062965425972) 4601417811276983173 0 4605030062965425972 4609118966639786721 (-16) (15) = true := by decide +kernel
theorem parCub44 : parLook ofCubQ accCubQ (idxCubQ 0 4604851022372303914) 4601597955262077993 0 4604851022372303914 4609164002636060426 (-15) (14) = true := by decide +kernel
theorem parCub45 : parLook ofCubQ accCubQ (idxCubQ 0 4604679279638461672) 4601778099247172813 0 4604679279638461672 4609209038632334131 (-15) (14) = true := by decide +kernel
theorem parCub46 : parLook ofCubQ accCubQ (idxCubQ 0 4604514347206244163) 4601958243232267633 0 4604514347206244163 4609254074628607836 (-15) (14) = true := by decide +kernel
theorem parCub47 : parLook ofCubQ accCubQ (idxCubQ 0 4604355778407199267) 4602138387217362452 0 4604355778407199267 4609299110624881541 (-14) (13) = true := by decide +kernel
theorem parCub48 : parLook ofCubQ accCubQ (idxCubQ 0 4604203163164688057) 4602318531202457272 0 4604203163164688057 4609344146621155246 (-14) (13) = true := by decide +kernel
theorem parCub49 : parLook ofCubQ accCubQ (idxCubQ 0 4604056124219351505) 4602498675187552092 0 4604056124219351505 4609389182617428950 (-14) (13) = true := by decide +kernel
theorem parCub50 : parLook ofCubQ accCubQ (idxCubQ 0 4603914313803872903) 4602678819172646912 0 4603914313803872903 4609434218613702656 (-13) (12) = true := by decide +kernel
end Go.Proofs.Ytgommnmmifgbgaa
end
/-
  The cubically interpolated mapping of each accuracy: what it tells. (Printed by gen_mapok.py.)
-/
section
namespace Go.Proofs.Ytgommnmmifgbgaa
open Go.RowKit
open Ieee
set_option maxRecDepth 100000
set_option exponentiation.threshold 5000

theorem mkCub {p a off mult rb part : Nat} {i0 i1 : Int} (par : parLook ofCubQ accCubQ (idxCubQ off mult) a off mult rb i0 i1 = true) (fact : ∀ i, i0 ≤ i → i ≤ i1 + 1 → FactK (lowerCubQ off mult) (lookC (idxCubQ off mult)) rb p i) (h01 : i0 ≤ i1)
    (hm : smallB mult = true) (ho : smallZ off = true) (hp : partLook p a part = true) (p1 : 1 ≤ p) (p2 : p ≤ 50) (b0 : -100000 ≤ i0) (b1 : i1 ≤ 100000) : MapOk ofCubF accCubF idxCubF lowerCubF valueCubF p :=
  mapOk_step ofCub_q accCub_q idxCub_q lowerCub_q (fun _ _ _ _ => rfl) (fun hm ho c1 c2 o1 o2 _ _ h1 h h2 => idxCub_step hm ho c1 c2 o1 o2 h1 h h2) (fun hm ho c1 c2 o1 o2 _ h1 h2 => ⟨_, idxCub_val hm ho c1 c2 o1 o2 h1 h2 1022 rfl⟩) par fact h01 hm ho hp p1 p2 b0 b1

theorem okCub1 : MapOk ofCubF accCubF idxCubF lowerCubF valueCubF 1 := mkCub (part := 4576918229310428744) parCub1 (fun i a b => factCub1 i a (by omega)) (by decide) (by decide +kernel) (by decide +kernel) (by decide +kernel) (by decide) (by decide) (by decide) (by decide)
theorem okCub2 : MapOk ofCubF accCubF idxCubF lowerCubF valueCubF 2 := mkCub (part := 4581421828937511009) parCub2 (fun i a b => factCub2 i a (by omega)) (by decide) (by decide +kernel) (by decide +kernel) (by decide +kernel) (by decide) (by decide) (by decide) (by decide)
theorem okCub3 : MapOk ofCubF accCubF idxCubF lowerCubF valueCubF 3 := mkCub (part := 4584304132701910430) parCub3 (fun i a b => factCub3 i a (by omega)) (by decide) (by decide +kernel) (by decide +kernel) (by decide +kernel) (by decide) (by decide) (by decide) (by decide)
theorem okCub4 : MapOk ofCubF accCubF idxCubF lowerCubF valueCubF 4 := mkCub (part := 4585925428564737390) parCub4 (fun i a b => factCub4 i a (by omega)) (by decide) (by decide +kernel) (by decide +kernel) (by decide +kernel) (by decide) (by decide) (by decide) (by decide)
theorem okCub5 : MapOk ofCubF accCubF idxCubF lowerCubF valueCubF 5 := mkCub (part := 4587366580446937101) parCub5 (fun i a b => factCub5 i a (by omega)) (by decide) (by decide +kernel) (by decide +kernel) (by decide +kernel) (by decide) (by decide) (by decide) (by decide)
theorem okCub6 : MapOk ofCubF accCubF idxCubF lowerCubF valueCubF 6 := mkCub (part := 4588807732329136811) parCub6 (fun i a b => factCub6 i a (by omega)) (by decide) (by decide +kernel) (by decide +kernel) (by decide +kernel) (by decide) (by decide) (by decide) (by decide)
theorem okCub7 : MapOk ofCubF accCubF idxCubF lowerCubF valueCubF 7 := mkCub (part := 4589708452250935974) parCub7 (fun i a b => factCub7 i a (by omega)) (by decide) (by decide +kernel) (by decide +kernel) (by decide +kernel) (by decide) (by decide) (by decide) (by decide)
theorem okCub8 : MapOk ofCubF accCubF idxCubF lowerCubF valueCubF 8 := mkCub (part := 4590429028192035829) parCub8 (fun i a b => factCub8 i a (by omega)) (by decide) (by decide +kernel) (by decide +kernel) (by decide +kernel) (by decide) (by decide) (by decide) (by decide)
theorem okCub9 : MapOk ofCubF accCubF idxCubF lowerCubF valueCubF 9 := mkCub (part := 4591149604133135684) parCub9 (fun i a b => factCub9 i a (by omega)) (by decide) (by decide +kernel) (by decide +kernel) (by decide +kernel) (by decide) (by decide) (by decide) (by decide)
theorem okCub10 : MapOk ofCubF accCubF idxCubF lowerCubF valueCubF 10 := mkCub (part := 4591870180074235540) parCub10 (fun i a b => factCub10 i a (by omega)) (by decide) (by decide +kernel) (by decide +kernel) (by decide +kernel) (by decide) (by decide) (by decide) (by decide)
theorem okCub11 : MapOk ofCubF accCubF idxCubF lowerCubF valueCubF 11 := mkCub (part := 4592590756015335395) parCub11 (fun i a b => factCub11 i a (by omega)) (by decide) (by decide +kernel) (by decide +kernel) (by decide +kernel) (by decide) (by decide) (by decide) (by decide)
theorem okCub12 : MapOk ofCubF accCubF idxCubF lowerCubF valueCubF 12 := mkCub (part := 4593311331956435250) parCub12 (fun i a b => factCub12 i a (by omega)) (by decide) (by decide +kernel) (by decide +kernel) (by decide +kernel) (by decide) (by decide) (by decide) (by decide)
theorem okCub13 : MapOk ofCubF accCubF idxCubF lowerCubF valueCubF 13 := mkCub (part := 4593851763907720513) parCub13 (fun i a b => factCub13 i a (by omega)) (by decide) (by decide +kernel) (by decide +kernel) (by decide +kernel) (by decide) (by decide) (by decide) (by decide)
theorem okCub14 : MapOk ofCubF accCubF idxCubF lowerCubF valueCubF 14 := mkCub (part := 4594212051878270441) parCub14 (fun i a b => factCub14 i a (by omega)) (by decide) (by decide +kernel) (by decide +kernel) (by decide +kernel) (by decide) (by decide) (by decide) (by decide)
theorem okCub15 : MapOk ofCubF accCubF idxCubF lowerCubF valueCubF 15 := mkCub (part := 4594572339848820368) parCub15 (fun i a b => factCub15 i a (by omega)) (by decide) (by decide +kernel) (by decide +kernel) (by decide +kernel) (by decide) (by decide) (by decide) (by decide)
theorem okCub16 : MapOk ofCubF accCubF idxCubF lowerCubF valueCubF 16 := mkCub (part := 4594932627819370296) parCub16 (fun i a b => factCub16 i a (by omega)) (by decide) (by decide +kernel) (by decide +kernel) (by decide +kernel) (by decide) (by decide) (by decide) (by decide)
theorem okCub17 : MapOk ofCubF accCubF idxCubF lowerCubF valueCubF 17 := mkCub (part := 4595292915789920224) parCub17 (fun i a b => factCub17 i a (by omega)) (by decide) (by decide +kernel) (by decide +kernel) (by decide +kernel) (by decide) (by decide) (by decide) (by decide)
theorem okCub18 : MapOk ofCubF accCubF idxCubF lowerCubF valueCubF 18 := mkCub (part := 4595653203760470151) parCub18 (fun i a b => factCub18 i a (by omega)) (by decide) (by decide +kernel) (by decide +kernel) (by decide +kernel) (by decide) (by decide) (by decide) (by decide)
theorem okCub19 : MapOk ofCubF accCubF idxCubF lowerCubF valueCubF 19 := mkCub (part := 4596013491731020079) parCub19 (fun i a b => factCub19 i a (by omega)) (by decide) (by decide +kernel) (by decide +kernel) (by decide +kernel) (by decide) (by decide) (by decide) (by decide)
theorem okCub20 : MapOk ofCubF accCubF idxCubF lowerCubF valueCubF 20 := mkCub (part := 4596373779701570007) parCub20 (fun i a b => factCub20 i a (by omega)) (by decide) (by decide +kernel) (by decide +kernel) (by decide +kernel) (by decide) (by decide) (by decide) (by decide)
theorem okCub21 : MapOk ofCubF accCubF idxCubF lowerCubF valueCubF 21 := mkCub (part := 4596734067672119934) parCub21 (fun i a b => factCub21 i a (by omega)) (by decide) (by decide +kernel) (by decide +kernel) (by decide +kernel) (by decide) (by decide) (by decide) (by decide)
theorem okCub22 : MapOk ofCubF accCubF idxCubF lowerCubF valueCubF 22 := mkCub (part := 4597094355642669862) parCub22 (fun i a b => factCub22 i a (by omega)) (by decide) (by decide +kernel) (by decide +kernel) (by decide +kernel) (by decide) (by decide) (by decide) (by decide)
theorem okCub23 : MapOk ofCubF accCubF idxCubF lowerCubF valueCubF 23 := mkCub (part := 4597454643613219790) parCub23 (fun i a b => factCub23 i a (by omega)) (by decide) (by decide +kernel) (by decide +kernel) (by decide +kernel) (by decide) (by decide) (by decide) (by decide)
theorem okCub24 : MapOk ofCubF accCubF idxCubF lowerCubF valueCubF 24 := mkCub (part := 4597814931583769717) parCub24 (fun i a b => factCub24 i a (by omega)) (by decide) (by decide +kernel) (by decide +kernel) (by decide +kernel) (by decide) (by decide) (by decide) (by decide)
theorem okCub25 : MapOk ofCubF accCubF idxCubF lowerCubF valueCubF 25 := mkCub (part := 4598175219549798030) parCub25 (fun i a b => factCub25 i a (by omega)) (by decide) (by decide +kernel) (by decide +kernel) (by decide +kernel) (by decide) (by decide) (by decide) (by decide)
theorem okCub26 : MapOk ofCubF accCubF idxCubF lowerCubF valueCubF 26 := mkCub (part := 4598355363535072994) parCub26 (fun i a b => factCub26 i a (by omega)) (by decide) (by decide +kernel) (by decide +kernel) (by decide +kernel) (by decide) (by decide) (by decide) (by decide)
theorem okCub27 : MapOk ofCubF accCubF idxCubF lowerCubF valueCubF 27 := mkCub (part := 4598535507520347958) parCub27 (fun i a b => factCub27 i a (by omega)) (by decide) (by decide +kernel) (by decide +kernel) (by decide +kernel) (by decide) (by decide) (by decide) (by decide)
theorem okCub28 : MapOk ofCubF accCubF idxCubF lowerCubF valueCubF 28 := mkCub (part := 4598715651505622922) parCub28 (fun i a b => factCub28 i a (by omega)) (by decide) (by decide +kernel) (by decide +kernel) (by decide +kernel) (by decide) (by decide) (by decide) (by decide)
theorem okCub29 : MapOk ofCubF accCubF idxCubF lowerCubF valueCubF 29 := mkCub (part := 4598895795490897885) parCub29 (fun i a b => factCub29 i a (by omega)) (by decide) (by decide +kernel) (by decide +kernel) (by decide +kernel) (by decide) (by decide) (by decide) (by decide)
theorem okCub30 : MapOk ofCubF accCubF idxCubF lowerCubF valueCubF 30 := mkCub (part := 4599075939476172849) parCub30 (fun i a b => factCub30 i a (by omega)) (by decide) (by decide +kernel) (by decide +kernel) (by decide +kernel) (by decide) (by decide) (by decide) (by decide)
theorem okCub31 : MapOk ofCubF accCubF idxCubF lowerCubF valueCubF 31 := mkCub (part := 4599256083461447813) parCub31 (fun i a b => factCub31 i a (by omega)) (by decide) (by decide +kernel) (by decide +kernel) (by decide +kernel) (by decide) (by decide) (by decide) (by decide)
theorem okCub32 : MapOk ofCubF accCubF idxCubF lowerCubF valueCubF 32 := mkCub (part := 4599436227446722777) parCub32 (fun i a b => factCub32 i a (by omega)) (by decide) (by decide +kernel) (by decide +kernel) (by decide +kernel) (by decide) (by decide) (by decide) (by decide)
theorem okCub33 : MapOk ofCubF accCubF idxCubF lowerCubF valueCubF 33 := mkCub (part := 4599616371431997741) parCub33 (fun i a b => factCub33 i a (by omega)) (by decide) (by decide +kernel) (by decide +kernel) (by decide +kernel) (by decide) (by decide) (by decide) (by decide)
theorem okCub34 : MapOk ofCubF accCubF idxCubF lowerCubF valueCubF 34 := mkCub (part := 4599796515417272705) parCub34 (fun i a b => factCub34 i a (by omega)) (by decide) (by decide +kernel) (by decide +kernel) (by decide +kernel) (by decide) (by decide) (by decide) (by decide)
theorem okCub35 : MapOk ofCubF accCubF idxCubF lowerCubF valueCubF 35 := mkCub (part := 4599976659402547668) parCub35 (fun i a b => factCub35 i a (by omega)) (by decide) (by decide +kernel) (by decide +kernel) (by decide +kernel) (by decide) (by decide) (by decide) (by decide)
theorem okCub36 : MapOk ofCubF accCubF idxCubF lowerCubF valueCubF 36 := mkCub (part := 4600156803387822632) parCub36 (fun i a b => factCub36 i a (by omega)) (by decide) (by decide +kernel) (by decide +kernel) (by decide +kernel) (by decide) (by decide) (by decide) (by decide)
theorem okCub37 : MapOk ofCubF accCubF idxCubF lowerCubF valueCubF 37 := mkCub (part := 4600336947373097596) parCub37 (fun i a b => factCub37 i a (by omega)) (by decide) (by decide +kernel) (by decide +kernel) (by decide +kernel) (by decide) (by decide) (by decide) (by decide)
theorem okCub38 : MapOk ofCubF accCubF idxCubF lowerCubF valueCubF 38 := mkCub (part := 4600517091358372560) parCub38 (fun i a b => factCub38 i a (by omega)) (by decide) (by decide +kernel) (by decide +kernel) (by decide +kernel) (by decide) (by decide) (by decide) (by decide)
theorem okCub39 : MapOk ofCubF accCubF idxCubF lowerCubF valueCubF 39 := mkCub (part := 4600697235343647524) parCub39 (fun i a b => factCub39 i a (by omega)) (by decide) (by decide +kernel) (by decide +kernel) (by decide +kernel) (by decide) (by decide) (by decide) (by decide)
theorem okCub40 : MapOk ofCubF accCubF idxCubF lowerCubF valueCubF 40 := mkCub (part := 4600877379328922488) parCub40 (fun i a b => factCub40 i a (by omega)) (by decide) (by decide +kernel) (by decide +kernel) (by decide +kernel) (by decide) (by decide) (by decide) (by decide)
theorem okCub41 : MapOk ofCubF accCubF idxCubF lowerCubF valueCubF 41 := mkCub (part := 4601057523314197451) parCub41 (fun i a b => factCub41 i a (by omega)) (by decide) (by decide +kernel) (by decide +kernel) (by decide +kernel) (by decide) (by decide) (by decide) (by decide)
theorem okCub42 : MapOk ofCubF accCubF idxCubF lowerCubF valueCubF 42 := mkCub (part := 4601237667299472415) parCub42 (fun i a b => factCub42 i a (by omega)) (by decide) (by decide +kernel) (by decide +kernel) (by decide +kernel) (by decide) (by decide) (by decide) (by decide)
theorem okCub43 : MapOk ofCubF accCubF idxCubF lowerCubF valueCubF 43 := mkCub (part := 4601417811284747379) parCub43 (fun i a b => factCub43 i a (by omega)) (by decide) (by decide +kernel) (by decide +kernel) (by decide +kernel) (by decide) (by decide) (by decide) (by decide)
theorem okCub44 : MapOk ofCubF accCubF idxCubF lowerCubF valueCubF 44 := mkCub (part := 4601597955270022343) parCub44 (fun i a b => factCub44 i a (by omega)) (by decide) (by decide +kernel) (by decide +kernel) (by decide +kernel) (by decide) (by decide) (by decide) (by decide)
theorem okCub45 : MapOk ofCubF accCubF idxCubF lowerCubF valueCubF 45 := mkCub (part := 4601778099255297307) parCub45 (fun i a b => factCub45 i a (by omega)) (by decide) (by decide +kernel) (by decide +kernel) (by decide +kernel) (by decide) (by decide) (by decide) (by decide)
theorem okCub46 : MapOk ofCubF accCubF idxCubF lowerCubF valueCubF 46 := mkCub (part := 4601958243240572271) parCub46 (fun i a b => factCub46 i a (by omega)) (by decide) (by decide +kernel) (by decide +kernel) (by decide +kernel) (by decide) (by decide) (by decide) (by decide)
theorem okCub47 : MapOk ofCubF accCubF idxCubF lowerCubF valueCubF 47 := mkCub (part := 4602138387225847234) parCub47 (fun i a b => factCub47 i a (by omega)) (by decide) (by decide +kernel) (by decide +kernel) (by decide +kernel) (by decide) (by decide) (by decide) (by decide)
theorem okCub48 : MapOk ofCubF accCubF idxCubF lowerCubF valueCubF 48 := mkCub (part := 4602318531211122198) parCub48 (fun i a b => factCub48 i a (by omega)) (by decide) (by decide +kernel) (by decide +kernel) (by decide +kernel) (by decide) (by decide) (by decide) (by decide)
theorem okCub49 : MapOk ofCubF accCubF idxCubF lowerCubF valueCubF 49 := mkCub (part := 4602498675196397162) parCub49 (fun i a b => factCub49 i a (by omega)) (by decide) (by decide +kernel) (by decide +kernel) (by decide +kernel) (by decide) (by decide) (by decide) (by decide)
theorem okCub50 : MapOk ofCubF accCubF idxCubF lowerCubF valueCubF 50 := mkCub (part := 4602678819177159519) parCub50 (fun i a b => factCub50 i a (by omega)) (by decide) (by decide +kernel) (by decide +kernel) (by decide +kernel) (by decide) (by decide) (by decide) (by decide)

theorem okCub (p : Nat) (h1 : 1 ≤ p) (h2 : p ≤ 50) : MapOk ofCubF accCubF idxCubF lowerCubF valueCubF p := by
  match p, h1, h2 with
  | 0, h, _ => exact absurd h (by decide)
  | 1, _, _ => exact okCub1
  | 2, _, _ => exact okCub2
  | 3, _, _ => exact okCub3
  | 4, _, _ => exact okCub4
  | 5, _, _ => exact okCub5
  | 6, _, _ => exact okCub6
  | 7, _, _ => exact okCub7
  | 8, _, _ => exact okCub8
  | 9, _, _ => exact okCub9
  | 10, _, _ => exact okCub10
  | 11, _, _ => exact okCub11
  | 12, _, _ => exact okCub12
  | 13, _, _ => exact okCub13
  | 14, _, _ => exact okCub14
  | 15, _, _ => exact okCub15
  | 16, _, _ => exact okCub16
  | 17, _, _ => exact okCub17
  | 18, _, _ => exact okCub18
  | 19, _, _ => exact okCub19
  | 20, _, _ => exact okCub20
  | 21, _, _ => exact okCub21
  | 22, _, _ => exact okCub22
  | 23, _, _ => exact okCub23
  | 24, _, _ => exact okCub24
  | 25, _, _ => exact okCub25
  | 26, _, _ => exact okCub26
  | 27, _, _ => exact okCub27
  | 28, _, _ => exact okCub28
  | 29, _, _ => exact okCub29
  | 30, _, _ => exact okCub30
  | 31, _, _ => exact okCub31
  | 32, _, _ => exact okCub32
  | 33, _, _ => exact okCub33
  | 34, _, _ => exact okCub34
  | 35, _, _ => exact okCub35
  | 36, _, _ => exact okCub36
  | 37, _, _ => exact okCub37
  | 38, _, _ => exact okCub38
  | 39, _, _ => exact okCub39
  | 40, _, _ => exact okCub40
  | 41, _, _ => exact okCub41
  | 42, _, _ => exact okCub42
  | 43, _, _ => exact okCub43
  | 44, _, _ => exact okCub44
  | 45, _, _ => exact okCub45
  | 46, _, _ => exact okCub46
  | 47, _, _ => exact okCub47
  | 48, _, _ => exact okCub48
  | 49, _, _ => exact okCub49
  | 50, _, _ => exact okCub50
  | n + 51, _, h => exact absurd h (by omega)
end Go.Proofs.Ytgommnmmifgbgaa
end
