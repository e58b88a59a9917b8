/-
  laws.FnQuantiles: it is true,whatever the input.
-/
import Derived.Test.YtllaekopaglolaaGreatGBQ
import Derived.Test.YtllaekopaglolaaGreatGAJ
section
namespace Go.Proofs.YtllaekopaglolaaGreat
open Go.RowKit
set_option exponentiation.threshold 5000
def GoodQ (mk pc st:Int) (xs:Items) (qs:List Nat):Prop :=
  ∃ a outs,fdiv (floatOfInt .f64 pc) 4636737291354636288=some a ∧
    (∀ W al aq cl cq,LieQ W al xs→LieN W aq qs→Calls Tryz.prog 9 #[.int .i64 mk,.float .f64 a,.int .i64 st,.int .i64 100,.slice al xs.length cl,.slice aq qs.length cq] W fun e w'=>AskGives (qv (absI xs)) xs outs W e w') ∧
    ∀ c s k l lo hi y,StInv (qv (absI xs)) xs c s k l lo hi→fadd s k=some y→∀ ax aq cx cq gv W,LieR W ax (fi xs)→LieN W aq qs→FRow W gv outs.length (fun i=>clampF lo hi (outs.getD i 0)) →
      Calls Tryz.prog 10 #[.float .f64 a,.slice ax xs.length cx,.slice aq qs.length cq,.slice (some ⟨gv,0,none⟩) outs.length outs.length,.float .f64 c,.float .f64 y,.float .f64 lo,.float .f64 hi] W fun e w'=>e = .returned (.bool true)∧Below W.heap.size W w'
set_option maxRecDepth 100000 in
set_option maxHeartbeats 2000000 in
theorem fnQ_any (mk pc st:Int) (al aq:Option Addr) (cl cq:Nat) (ps:List (Nat × Nat)) (qs:List Nat) (w:World) (hl:LieR w al ps) (hq:LieN w aq qs) (hb:∀ p∈ps,p.1<18446744073709551616∧p.2<18446744073709551616)
   (HG:∀ xs,ps=fi xs→(∀ q∈xs,ItemOk q)→0<xs.length→xs.length≤60→FineQ mk pc st qs→GoodQ mk pc st xs qs) :
    Calls Tryz.prog 3 #[.int .i64 mk,.int .i64 pc,.int .i64 st,.slice al ps.length cl,.slice aq qs.length cq] w fun e w'=>IsTrue w e w':=by
  by_cases hz:2147483647<ps.length
  · have hz1:(2147483647:Int)<ps.length:=by omega
    clear hl hq hb HG hz
    go_enter Tryz.func3,Tryz.ntmps3
    go_wp2
    go_ret
    exact ⟨rfl,Below.refl _ _⟩
  by_cases hy:2147483647<qs.length
  · have hz1:(ps.length:Int)≤2147483647:=by omega
    have hy1:(2147483647:Int)<qs.length:=by omega
    clear hl hq hb HG hz hy
    go_enter Tryz.func3,Tryz.ntmps3
    go_wp2
    go_ret
    exact ⟨rfl,Below.refl _ _⟩
  have hz1:(ps.length:Int)≤2147483647:=by omega
  have hy1:(qs.length:Int)≤2147483647:=by omega
  have HB:=items_any al cl ps w hl (by omega)
  have HFN:=fun w' h=>fine_any mk pc st aq cq qs w' h (by omega)
  have HIT:=fun a c w' h=>itemsF_any a c ps w' h (by omega)
  have HWK:Hid (∀ W,Calls Tryz.prog 8 #[] W fun e w'=>IsTrue W e w'):=fun W=>works_any W
  have HL:=Lib.hid hl
  have HQ:=Lib.hid hq
  have HBI:=Lib.hid hb
  have HGG:=Lib.hid HG
  have HFF:=Lib.hid HFN
  have HII:=Lib.hid HIT
  clear hl hq hb HG hz hy HFN HIT
  go_enter Tryz.func3,Tryz.ntmps3
  go_wp2_with fail
  (with_reducible refine HB.mono ?_)
  clear HB
  rintro e w1 ⟨a1,c1,rfl,hown,hb1⟩
  have hlie1:=(lieR_of_owns hown.1).2.2.2
  have HL1:=Lib.hid hlie1
  have HB1:=Lib.hid hb1
  have HQ1:=Lib.hid (lieN_later HQ.out hb1)
  clear hown hb1 hlie1
  go_wp2_with fail
  (with_reducible refine (HFF.out w1 HQ1.out).mono ?_)
  clear HFF
  rintro e w1' ⟨⟨b,rfl,hfine⟩,rfl⟩
  cases b
  · clear hfine
    go_wp2_with fail
    refine (HWK.out _).mono ?_
    rintro e w2 ⟨rfl,hb2⟩
    have HB2:=Lib.hid (HB1.out.trans (hb2.mono HB1.out.size)); clear hb2
    go_wp2
    go_ret
    exact ⟨rfl,HB2.out⟩
  have HF:=Lib.hid (hfine rfl)
  clear hfine
  go_wp2_with fail
  (with_reducible refine (HII.out a1 c1 w1 HL1.out).mono ?_)
  clear HII
  rintro e w2 ⟨rfl,hb2⟩
  have HB2:=Lib.hid (HB1.out.trans (hb2.mono HB1.out.size))
  cases hit:itemsB ps
  · clear hit hb2
    go_wp2_with fail
    refine (HWK.out _).mono ?_
    rintro e w3 ⟨rfl,hb3⟩
    have HB3:=Lib.hid (HB2.out.trans (hb3.mono HB2.out.size)); clear hb3
    go_wp2
    go_ret
    exact ⟨rfl,HB3.out⟩
  obtain ⟨xs,hxs,hok,hx0,hx60⟩:=items_ok hit HBI.out
  obtain ⟨a,outs,ha,hQ,hR⟩:=HGG.out xs hxs hok hx0 hx60 HF.out
  have hpl:ps.length=xs.length:=by rw [hxs,fi_length]
  have HLQ:Hid (LieQ w2 al xs):=Lib.hid (lieQ_fi (by rw [← hxs]; exact HL.out.later HB2.out))
  have HLX:Hid (LieR w2 a1 (fi xs)):=Lib.hid (by rw [← hxs]; exact HL1.out.later hb2)
  have HQ2:=Lib.hid (lieN_later HQ.out HB2.out)
  have HQC:=Lib.hid (hQ w2 al aq cl cq HLQ.out HQ2.out)
  have HRR:=Lib.hid hR
  have q1:=fun w:World=>run_float_arith (P:=Tryz.prog) w .quo 29 .f64 _ _ _ ha
  rw [← hpl] at HQC HRR
  clear hit hb2 hxs hok hx0 hx60 ha hQ hR hpl HGG HBI
  go_wp2_with fail
  (with_reducible refine HQC.out.mono ?_)
  clear HQC
  rintro e w3 ⟨c,s,k,l,lo,hi,y,gv,rfl,hst,hy,hrow,hb3⟩
  have HB3:=Lib.hid (HB2.out.trans (hb3.mono HB2.out.size))
  have HRC:=Lib.hid (HRR.out c s k l lo hi y hst hy a1 aq c1 cq gv w3 (HLX.out.later hb3) (lieN_later HQ2.out hb3) hrow)
  clear HRR hst hy hrow hb3 q1
  go_wp2_with fail
  (with_reducible refine HRC.out.mono ?_)
  clear HRC
  rintro e w4 ⟨rfl,hb4⟩
  have HB4:=Lib.hid (HB3.out.trans (hb4.mono HB3.out.size)); clear hb4
  go_wp2_with fail
  refine (HWK.out _).mono ?_
  rintro e w5 ⟨rfl,hb5⟩
  have HB5:=Lib.hid (HB4.out.trans (hb5.mono HB4.out.size)); clear hb5
  go_wp2
  go_ret
  exact ⟨rfl,HB5.out⟩
end Go.Proofs.YtllaekopaglolaaGreat
end
/-
  The logarithmic mapping: looks at the borders between indices. (Printed by gen_chk.py.)
-/
section
namespace Go.Proofs.YtllaekopaglolaaGreat
set_option maxRecDepth 100000
set_option exponentiation.threshold 5000
theorem lookLog1_0:chunkK (lowerLogQ 0 4632233457158529904) (lookI (idxLogQ 0 4632233457158529904)) 4607227454796291112 1 250 0 (-691)=true:=by decide +kernel
theorem lookLog1_1:chunkK (lowerLogQ 0 4632233457158529904) (lookI (idxLogQ 0 4632233457158529904)) 4607227454796291112 1 250 0 (-441)=true:=by decide +kernel
theorem lookLog1_2:chunkK (lowerLogQ 0 4632233457158529904) (lookI (idxLogQ 0 4632233457158529904)) 4607227454796291112 1 250 0 (-191)=true:=by decide +kernel
end Go.Proofs.YtllaekopaglolaaGreat
end
/-
  The logarithmic mapping: looks at the borders between indices. (Printed by gen_chk.py.)
-/
section
namespace Go.Proofs.YtllaekopaglolaaGreat
set_option maxRecDepth 100000
set_option exponentiation.threshold 5000
theorem lookLog1_3:chunkK (lowerLogQ 0 4632233457158529904) (lookI (idxLogQ 0 4632233457158529904)) 4607227454796291112 1 250 0 (59)=true:=by decide +kernel
theorem lookLog1_4:chunkK (lowerLogQ 0 4632233457158529904) (lookI (idxLogQ 0 4632233457158529904)) 4607227454796291112 1 250 0 (309)=true:=by decide +kernel
theorem lookLog1_5:chunkK (lowerLogQ 0 4632233457158529904) (lookI (idxLogQ 0 4632233457158529904)) 4607227454796291112 1 133 0 (559)=true:=by decide +kernel
theorem lookLog2_0:chunkK (lowerLogQ 0 4627729153749871953) (lookI (idxLogQ 0 4627729153749871953)) 4607272490792564818 2 250 0 (-346)=true:=by decide +kernel
end Go.Proofs.YtllaekopaglolaaGreat
end
/-
  The logarithmic mapping: looks at the borders between indices. (Printed by gen_chk.py.)
-/
section
namespace Go.Proofs.YtllaekopaglolaaGreat
set_option maxRecDepth 100000
set_option exponentiation.threshold 5000
theorem lookLog2_1:chunkK (lowerLogQ 0 4627729153749871953) (lookI (idxLogQ 0 4627729153749871953)) 4607272490792564818 2 250 0 (-96)=true:=by decide +kernel
theorem lookLog2_2:chunkK (lowerLogQ 0 4627729153749871953) (lookI (idxLogQ 0 4627729153749871953)) 4607272490792564818 2 193 0 (154)=true:=by decide +kernel
theorem lookLog3_0:chunkK (lowerLogQ 0 4625383059581160310) (lookI (idxLogQ 0 4625383059581160310)) 4607317526788838522 3 250 0 (-231)=true:=by decide +kernel
theorem lookLog3_1:chunkK (lowerLogQ 0 4625383059581160310) (lookI (idxLogQ 0 4625383059581160310)) 4607317526788838522 3 213 0 (19)=true:=by decide +kernel
end Go.Proofs.YtllaekopaglolaaGreat
end
/-
  The logarithmic mapping: looks at the borders between indices. (Printed by gen_chk.py.)
-/
section
namespace Go.Proofs.YtllaekopaglolaaGreat
set_option maxRecDepth 100000
set_option exponentiation.threshold 5000
theorem lookLog4_0:chunkK (lowerLogQ 0 4623222737870212026) (lookI (idxLogQ 0 4623222737870212026)) 4607362562785112228 4 250 0 (-173)=true:=by decide +kernel
theorem lookLog4_1:chunkK (lowerLogQ 0 4623222737870212026) (lookI (idxLogQ 0 4623222737870212026)) 4607362562785112228 4 97 0 (77)=true:=by decide +kernel
theorem lookLog5_0:chunkK (lowerLogQ 0 4621814423207757742) (lookI (idxLogQ 0 4621814423207757742)) 4607407598781385934 5 250 0 (-139)=true:=by decide +kernel
theorem lookLog5_1:chunkK (lowerLogQ 0 4621814423207757742) (lookI (idxLogQ 0 4621814423207757742)) 4607407598781385934 5 29 0 (111)=true:=by decide +kernel
theorem lookLog6_0:chunkK (lowerLogQ 0 4620875232752534038) (lookI (idxLogQ 0 4620875232752534038)) 4607452634777659638 6 231 0 (-115)=true:=by decide +kernel
end Go.Proofs.YtllaekopaglolaaGreat
end
/-
  The logarithmic mapping: looks at the borders between indices. (Printed by gen_chk.py.)
-/
section
namespace Go.Proofs.YtllaekopaglolaaGreat
set_option maxRecDepth 100000
set_option exponentiation.threshold 5000
theorem lookLog7_0:chunkK (lowerLogQ 0 4619715007912295160) (lookI (idxLogQ 0 4619715007912295160)) 4607497670773933342 7 199 0 (-99)=true:=by decide +kernel
theorem lookLog8_0:chunkK (lowerLogQ 0 4618707855139670793) (lookI (idxLogQ 0 4618707855139670793)) 4607542706770207048 8 175 0 (-87)=true:=by decide +kernel
theorem lookLog9_0:chunkK (lowerLogQ 0 4617924092776493676) (lookI (idxLogQ 0 4617924092776493676)) 4607587742766480753 9 155 0 (-77)=true:=by decide +kernel
theorem lookLog10_0:chunkK (lowerLogQ 0 4617296702659331384) (lookI (idxLogQ 0 4617296702659331384)) 4607632778762754458 10 139 0 (-69)=true:=by decide +kernel
theorem lookLog11_0:chunkK (lowerLogQ 0 4616783036749666729) (lookI (idxLogQ 0 4616783036749666729)) 4607677814759028163 11 127 0 (-63)=true:=by decide +kernel
theorem lookLog12_0:chunkK (lowerLogQ 0 4616354662913603693) (lookI (idxLogQ 0 4616354662913603693)) 4607722850755301868 12 117 0 (-58)=true:=by decide +kernel
end Go.Proofs.YtllaekopaglolaaGreat
end
/-
  The logarithmic mapping: looks at the borders between indices. (Printed by gen_chk.py.)
-/
section
namespace Go.Proofs.YtllaekopaglolaaGreat
set_option maxRecDepth 100000
set_option exponentiation.threshold 5000
theorem lookLog13_0:chunkK (lowerLogQ 0 4615794176474467322) (lookI (idxLogQ 0 4615794176474467322)) 4607767886751575572 13 107 0 (-53)=true:=by decide +kernel
theorem lookLog14_0:chunkK (lowerLogQ 0 4615171741520823072) (lookI (idxLogQ 0 4615171741520823072)) 4607812922747849278 14 101 0 (-50)=true:=by decide +kernel
theorem lookLog15_0:chunkK (lowerLogQ 0 4614631781373749207) (lookI (idxLogQ 0 4614631781373749207)) 4607857958744122982 15 93 0 (-46)=true:=by decide +kernel
theorem lookLog16_0:chunkK (lowerLogQ 0 4614158829705195416) (lookI (idxLogQ 0 4614158829705195416)) 4607902994740396688 16 87 0 (-43)=true:=by decide +kernel
theorem lookLog17_0:chunkK (lowerLogQ 0 4613741059155014615) (lookI (idxLogQ 0 4613741059155014615)) 4607948030736670392 17 83 0 (-41)=true:=by decide +kernel
theorem lookLog18_0:chunkK (lowerLogQ 0 4613369270502780182) (lookI (idxLogQ 0 4613369270502780182)) 4607993066732944096 18 77 0 (-38)=true:=by decide +kernel
theorem lookLog19_0:chunkK (lowerLogQ 0 4613036201048197705) (lookI (idxLogQ 0 4613036201048197705)) 4608038102729217802 19 73 0 (-36)=true:=by decide +kernel
theorem lookLog20_0:chunkK (lowerLogQ 0 4612736040477087941) (lookI (idxLogQ 0 4612736040477087941)) 4608083138725491507 20 71 0 (-35)=true:=by decide +kernel
theorem lookLog21_0:chunkK (lowerLogQ 0 4612464085051067974) (lookI (idxLogQ 0 4612464085051067974)) 4608128174721765212 21 67 0 (-33)=true:=by decide +kernel
theorem lookLog22_0:chunkK (lowerLogQ 0 4612216486108828178) (lookI (idxLogQ 0 4612216486108828178)) 4608173210718038917 22 63 0 (-31)=true:=by decide +kernel
theorem lookLog23_0:chunkK (lowerLogQ 0 4611990064175458239) (lookI (idxLogQ 0 4611990064175458239)) 4608218246714312622 23 61 0 (-30)=true:=by decide +kernel
end Go.Proofs.YtllaekopaglolaaGreat
end
/-
  The logarithmic mapping: looks at the borders between indices. (Printed by gen_chk.py.)
-/
section
namespace Go.Proofs.YtllaekopaglolaaGreat
set_option maxRecDepth 100000
set_option exponentiation.threshold 5000
theorem lookLog24_0:chunkK (lowerLogQ 0 4611782169544122916) (lookI (idxLogQ 0 4611782169544122916)) 4608263282710586328 24 59 0 (-29)=true:=by decide +kernel
theorem lookLog25_0:chunkK (lowerLogQ 0 4611495134208232510) (lookI (idxLogQ 0 4611495134208232510)) 4608308318706860032 25 57 0 (-28)=true:=by decide +kernel
theorem lookLog26_0:chunkK (lowerLogQ 0 4611140783377913010) (lookI (idxLogQ 0 4611140783377913010)) 4608353354703133737 26 53 0 (-26)=true:=by decide +kernel
theorem lookLog27_0:chunkK (lowerLogQ 0 4610812058799589437) (lookI (idxLogQ 0 4610812058799589437)) 4608398390699407442 27 51 0 (-25)=true:=by decide +kernel
theorem lookLog28_0:chunkK (lowerLogQ 0 4610506209299859922) (lookI (idxLogQ 0 4610506209299859922)) 4608443426695681147 28 51 0 (-25)=true:=by decide +kernel
theorem lookLog29_0:chunkK (lowerLogQ 0 4610220862892121518) (lookI (idxLogQ 0 4610220862892121518)) 4608488462691954852 29 49 0 (-24)=true:=by decide +kernel
theorem lookLog30_0:chunkK (lowerLogQ 0 4609953963567725617) (lookI (idxLogQ 0 4609953963567725617)) 4608533498688228558 30 47 0 (-23)=true:=by decide +kernel
theorem lookLog31_0:chunkK (lowerLogQ 0 4609703720320315841) (lookI (idxLogQ 0 4609703720320315841)) 4608578534684502262 31 45 0 (-22)=true:=by decide +kernel
theorem lookLog32_0:chunkK (lowerLogQ 0 4609468565727281664) (lookI (idxLogQ 0 4609468565727281664)) 4608623570680775967 32 43 0 (-21)=true:=by decide +kernel
theorem lookLog33_0:chunkK (lowerLogQ 0 4609247122060998742) (lookI (idxLogQ 0 4609247122060998742)) 4608668606677049672 33 43 0 (-21)=true:=by decide +kernel
theorem lookLog34_0:chunkK (lowerLogQ 0 4609038173379539422) (lookI (idxLogQ 0 4609038173379539422)) 4608713642673323377 34 41 0 (-20)=true:=by decide +kernel
theorem lookLog35_0:chunkK (lowerLogQ 0 4608840642400888357) (lookI (idxLogQ 0 4608840642400888357)) 4608758678669597082 35 39 0 (-19)=true:=by decide +kernel
theorem lookLog36_0:chunkK (lowerLogQ 0 4608653571230460981) (lookI (idxLogQ 0 4608653571230460981)) 4608803714665870786 36 39 0 (-19)=true:=by decide +kernel
theorem lookLog37_0:chunkK (lowerLogQ 0 4608476105212839592) (lookI (idxLogQ 0 4608476105212839592)) 4608848750662144492 37 37 0 (-18)=true:=by decide +kernel
theorem lookLog38_0:chunkK (lowerLogQ 0 4608307479332124942) (lookI (idxLogQ 0 4608307479332124942)) 4608893786658418196 38 37 0 (-18)=true:=by decide +kernel
theorem lookLog39_0:chunkK (lowerLogQ 0 4608147006703364017) (lookI (idxLogQ 0 4608147006703364017)) 4608938822654691902 39 35 0 (-17)=true:=by decide +kernel
theorem lookLog40_0:chunkK (lowerLogQ 0 4607994068789012533) (lookI (idxLogQ 0 4607994068789012533)) 4608983858650965606 40 35 0 (-17)=true:=by decide +kernel
theorem lookLog41_0:chunkK (lowerLogQ 0 4607848107045801954) (lookI (idxLogQ 0 4607848107045801954)) 4609028894647239311 41 33 0 (-16)=true:=by decide +kernel
theorem lookLog42_0:chunkK (lowerLogQ 0 4607708615763488624) (lookI (idxLogQ 0 4607708615763488624)) 4609073930643513016 42 33 0 (-16)=true:=by decide +kernel
theorem lookLog43_0:chunkK (lowerLogQ 0 4607575135901325166) (lookI (idxLogQ 0 4607575135901325166)) 4609118966639786721 43 33 0 (-16)=true:=by decide +kernel
theorem lookLog44_0:chunkK (lowerLogQ 0 4607447249763380839) (lookI (idxLogQ 0 4607447249763380839)) 4609164002636060426 44 31 0 (-15)=true:=by decide +kernel
theorem lookLog45_0:chunkK (lowerLogQ 0 4607324576382064951) (lookI (idxLogQ 0 4607324576382064951)) 4609209038632334131 45 31 0 (-15)=true:=by decide +kernel
end Go.Proofs.YtllaekopaglolaaGreat
end
/-
  The logarithmic mapping: looks at the borders between indices. (Printed by gen_chk.py.)
-/
section
namespace Go.Proofs.YtllaekopaglolaaGreat
set_option maxRecDepth 100000
set_option exponentiation.threshold 5000
theorem lookLog46_0:chunkK (lowerLogQ 0 4607206767501909589) (lookI (idxLogQ 0 4607206767501909589)) 4609254074628607836 46 29 0 (-14)=true:=by decide +kernel
theorem lookLog47_0:chunkK (lowerLogQ 0 4607004589348023346) (lookI (idxLogQ 0 4607004589348023346)) 4609299110624881541 47 29 0 (-14)=true:=by decide +kernel
theorem lookLog48_0:chunkK (lowerLogQ 0 4606786567573007331) (lookI (idxLogQ 0 4606786567573007331)) 4609344146621155246 48 29 0 (-14)=true:=by decide +kernel
theorem lookLog49_0:chunkK (lowerLogQ 0 4606576511936812258) (lookI (idxLogQ 0 4606576511936812258)) 4609389182617428951 49 27 0 (-13)=true:=by decide +kernel
theorem lookLog50_0:chunkK (lowerLogQ 0 4606373925628985684) (lookI (idxLogQ 0 4606373925628985684)) 4609434218613702656 50 27 0 (-13)=true:=by decide +kernel
end Go.Proofs.YtllaekopaglolaaGreat
end
/-
  The logarithmic mapping: what the looks tell,for each hundredth. (Printed by gen_chk.py.)
-/
section
namespace Go.Proofs.YtllaekopaglolaaGreat
set_option maxRecDepth 100000
set_option exponentiation.threshold 5000
theorem factLog1 (i:Int) (h1:-691≤i) (h2:i≤691):FactK (lowerLogQ 0 4632233457158529904) (lookI (idxLogQ 0 4632233457158529904)) 4607227454796291112 1 i:=by
  by_cases c0:i < -441
  · have:=chunkK_is lookLog1_0 (i - (-691)).toNat (by omega)
    rwa [show (-691:Int)+((i - (-691)).toNat:Int)=i from by omega] at this
  by_cases c1:i < -191
  · have:=chunkK_is lookLog1_1 (i - (-441)).toNat (by omega)
    rwa [show (-441:Int)+((i - (-441)).toNat:Int)=i from by omega] at this
  by_cases c2:i<59
  · have:=chunkK_is lookLog1_2 (i - (-191)).toNat (by omega)
    rwa [show (-191:Int)+((i - (-191)).toNat:Int)=i from by omega] at this
  by_cases c3:i<309
  · have:=chunkK_is lookLog1_3 (i - (59)).toNat (by omega)
    rwa [show (59:Int)+((i - (59)).toNat:Int)=i from by omega] at this
  by_cases c4:i<559
  · have:=chunkK_is lookLog1_4 (i - (309)).toNat (by omega)
    rwa [show (309:Int)+((i - (309)).toNat:Int)=i from by omega] at this
  have:=chunkK_is lookLog1_5 (i - (559)).toNat (by omega)
  rwa [show (559:Int)+((i - (559)).toNat:Int)=i from by omega] at this
theorem factLog2 (i:Int) (h1:-346≤i) (h2:i≤346):FactK (lowerLogQ 0 4627729153749871953) (lookI (idxLogQ 0 4627729153749871953)) 4607272490792564818 2 i:=by
  by_cases c0:i < -96
  · have:=chunkK_is lookLog2_0 (i - (-346)).toNat (by omega)
    rwa [show (-346:Int)+((i - (-346)).toNat:Int)=i from by omega] at this
  by_cases c1:i<154
  · have:=chunkK_is lookLog2_1 (i - (-96)).toNat (by omega)
    rwa [show (-96:Int)+((i - (-96)).toNat:Int)=i from by omega] at this
  have:=chunkK_is lookLog2_2 (i - (154)).toNat (by omega)
  rwa [show (154:Int)+((i - (154)).toNat:Int)=i from by omega] at this
theorem factLog3 (i:Int) (h1:-231≤i) (h2:i≤231):FactK (lowerLogQ 0 4625383059581160310) (lookI (idxLogQ 0 4625383059581160310)) 4607317526788838522 3 i:=by
  by_cases c0:i<19
  · have:=chunkK_is lookLog3_0 (i - (-231)).toNat (by omega)
    rwa [show (-231:Int)+((i - (-231)).toNat:Int)=i from by omega] at this
  have:=chunkK_is lookLog3_1 (i - (19)).toNat (by omega)
  rwa [show (19:Int)+((i - (19)).toNat:Int)=i from by omega] at this
theorem factLog4 (i:Int) (h1:-173≤i) (h2:i≤173):FactK (lowerLogQ 0 4623222737870212026) (lookI (idxLogQ 0 4623222737870212026)) 4607362562785112228 4 i:=by
  by_cases c0:i<77
  · have:=chunkK_is lookLog4_0 (i - (-173)).toNat (by omega)
    rwa [show (-173:Int)+((i - (-173)).toNat:Int)=i from by omega] at this
  have:=chunkK_is lookLog4_1 (i - (77)).toNat (by omega)
  rwa [show (77:Int)+((i - (77)).toNat:Int)=i from by omega] at this
theorem factLog5 (i:Int) (h1:-139≤i) (h2:i≤139):FactK (lowerLogQ 0 4621814423207757742) (lookI (idxLogQ 0 4621814423207757742)) 4607407598781385934 5 i:=by
  by_cases c0:i<111
  · have:=chunkK_is lookLog5_0 (i - (-139)).toNat (by omega)
    rwa [show (-139:Int)+((i - (-139)).toNat:Int)=i from by omega] at this
  have:=chunkK_is lookLog5_1 (i - (111)).toNat (by omega)
  rwa [show (111:Int)+((i - (111)).toNat:Int)=i from by omega] at this
theorem factLog6 (i:Int) (h1:-115≤i) (h2:i≤115):FactK (lowerLogQ 0 4620875232752534038) (lookI (idxLogQ 0 4620875232752534038)) 4607452634777659638 6 i:=by
  have:=chunkK_is lookLog6_0 (i - (-115)).toNat (by omega)
  rwa [show (-115:Int)+((i - (-115)).toNat:Int)=i from by omega] at this
theorem factLog7 (i:Int) (h1:-99≤i) (h2:i≤99):FactK (lowerLogQ 0 4619715007912295160) (lookI (idxLogQ 0 4619715007912295160)) 4607497670773933342 7 i:=by
  have:=chunkK_is lookLog7_0 (i - (-99)).toNat (by omega)
  rwa [show (-99:Int)+((i - (-99)).toNat:Int)=i from by omega] at this
theorem factLog8 (i:Int) (h1:-87≤i) (h2:i≤87):FactK (lowerLogQ 0 4618707855139670793) (lookI (idxLogQ 0 4618707855139670793)) 4607542706770207048 8 i:=by
  have:=chunkK_is lookLog8_0 (i - (-87)).toNat (by omega)
  rwa [show (-87:Int)+((i - (-87)).toNat:Int)=i from by omega] at this
theorem factLog9 (i:Int) (h1:-77≤i) (h2:i≤77):FactK (lowerLogQ 0 4617924092776493676) (lookI (idxLogQ 0 4617924092776493676)) 4607587742766480753 9 i:=by
  have:=chunkK_is lookLog9_0 (i - (-77)).toNat (by omega)
  rwa [show (-77:Int)+((i - (-77)).toNat:Int)=i from by omega] at this
theorem factLog10 (i:Int) (h1:-69≤i) (h2:i≤69):FactK (lowerLogQ 0 4617296702659331384) (lookI (idxLogQ 0 4617296702659331384)) 4607632778762754458 10 i:=by
  have:=chunkK_is lookLog10_0 (i - (-69)).toNat (by omega)
  rwa [show (-69:Int)+((i - (-69)).toNat:Int)=i from by omega] at this
theorem factLog11 (i:Int) (h1:-63≤i) (h2:i≤63):FactK (lowerLogQ 0 4616783036749666729) (lookI (idxLogQ 0 4616783036749666729)) 4607677814759028163 11 i:=by
  have:=chunkK_is lookLog11_0 (i - (-63)).toNat (by omega)
  rwa [show (-63:Int)+((i - (-63)).toNat:Int)=i from by omega] at this
theorem factLog12 (i:Int) (h1:-58≤i) (h2:i≤58):FactK (lowerLogQ 0 4616354662913603693) (lookI (idxLogQ 0 4616354662913603693)) 4607722850755301868 12 i:=by
  have:=chunkK_is lookLog12_0 (i - (-58)).toNat (by omega)
  rwa [show (-58:Int)+((i - (-58)).toNat:Int)=i from by omega] at this
theorem factLog13 (i:Int) (h1:-53≤i) (h2:i≤53):FactK (lowerLogQ 0 4615794176474467322) (lookI (idxLogQ 0 4615794176474467322)) 4607767886751575572 13 i:=by
  have:=chunkK_is lookLog13_0 (i - (-53)).toNat (by omega)
  rwa [show (-53:Int)+((i - (-53)).toNat:Int)=i from by omega] at this
theorem factLog14 (i:Int) (h1:-50≤i) (h2:i≤50):FactK (lowerLogQ 0 4615171741520823072) (lookI (idxLogQ 0 4615171741520823072)) 4607812922747849278 14 i:=by
  have:=chunkK_is lookLog14_0 (i - (-50)).toNat (by omega)
  rwa [show (-50:Int)+((i - (-50)).toNat:Int)=i from by omega] at this
theorem factLog15 (i:Int) (h1:-46≤i) (h2:i≤46):FactK (lowerLogQ 0 4614631781373749207) (lookI (idxLogQ 0 4614631781373749207)) 4607857958744122982 15 i:=by
  have:=chunkK_is lookLog15_0 (i - (-46)).toNat (by omega)
  rwa [show (-46:Int)+((i - (-46)).toNat:Int)=i from by omega] at this
theorem factLog16 (i:Int) (h1:-43≤i) (h2:i≤43):FactK (lowerLogQ 0 4614158829705195416) (lookI (idxLogQ 0 4614158829705195416)) 4607902994740396688 16 i:=by
  have:=chunkK_is lookLog16_0 (i - (-43)).toNat (by omega)
  rwa [show (-43:Int)+((i - (-43)).toNat:Int)=i from by omega] at this
theorem factLog17 (i:Int) (h1:-41≤i) (h2:i≤41):FactK (lowerLogQ 0 4613741059155014615) (lookI (idxLogQ 0 4613741059155014615)) 4607948030736670392 17 i:=by
  have:=chunkK_is lookLog17_0 (i - (-41)).toNat (by omega)
  rwa [show (-41:Int)+((i - (-41)).toNat:Int)=i from by omega] at this
theorem factLog18 (i:Int) (h1:-38≤i) (h2:i≤38):FactK (lowerLogQ 0 4613369270502780182) (lookI (idxLogQ 0 4613369270502780182)) 4607993066732944096 18 i:=by
  have:=chunkK_is lookLog18_0 (i - (-38)).toNat (by omega)
  rwa [show (-38:Int)+((i - (-38)).toNat:Int)=i from by omega] at this
theorem factLog19 (i:Int) (h1:-36≤i) (h2:i≤36):FactK (lowerLogQ 0 4613036201048197705) (lookI (idxLogQ 0 4613036201048197705)) 4608038102729217802 19 i:=by
  have:=chunkK_is lookLog19_0 (i - (-36)).toNat (by omega)
  rwa [show (-36:Int)+((i - (-36)).toNat:Int)=i from by omega] at this
theorem factLog20 (i:Int) (h1:-35≤i) (h2:i≤35):FactK (lowerLogQ 0 4612736040477087941) (lookI (idxLogQ 0 4612736040477087941)) 4608083138725491507 20 i:=by
  have:=chunkK_is lookLog20_0 (i - (-35)).toNat (by omega)
  rwa [show (-35:Int)+((i - (-35)).toNat:Int)=i from by omega] at this
theorem factLog21 (i:Int) (h1:-33≤i) (h2:i≤33):FactK (lowerLogQ 0 4612464085051067974) (lookI (idxLogQ 0 4612464085051067974)) 4608128174721765212 21 i:=by
  have:=chunkK_is lookLog21_0 (i - (-33)).toNat (by omega)
  rwa [show (-33:Int)+((i - (-33)).toNat:Int)=i from by omega] at this
theorem factLog22 (i:Int) (h1:-31≤i) (h2:i≤31):FactK (lowerLogQ 0 4612216486108828178) (lookI (idxLogQ 0 4612216486108828178)) 4608173210718038917 22 i:=by
  have:=chunkK_is lookLog22_0 (i - (-31)).toNat (by omega)
  rwa [show (-31:Int)+((i - (-31)).toNat:Int)=i from by omega] at this
theorem factLog23 (i:Int) (h1:-30≤i) (h2:i≤30):FactK (lowerLogQ 0 4611990064175458239) (lookI (idxLogQ 0 4611990064175458239)) 4608218246714312622 23 i:=by
  have:=chunkK_is lookLog23_0 (i - (-30)).toNat (by omega)
  rwa [show (-30:Int)+((i - (-30)).toNat:Int)=i from by omega] at this
theorem factLog24 (i:Int) (h1:-29≤i) (h2:i≤29):FactK (lowerLogQ 0 4611782169544122916) (lookI (idxLogQ 0 4611782169544122916)) 4608263282710586328 24 i:=by
  have:=chunkK_is lookLog24_0 (i - (-29)).toNat (by omega)
  rwa [show (-29:Int)+((i - (-29)).toNat:Int)=i from by omega] at this
theorem factLog25 (i:Int) (h1:-28≤i) (h2:i≤28):FactK (lowerLogQ 0 4611495134208232510) (lookI (idxLogQ 0 4611495134208232510)) 4608308318706860032 25 i:=by
  have:=chunkK_is lookLog25_0 (i - (-28)).toNat (by omega)
  rwa [show (-28:Int)+((i - (-28)).toNat:Int)=i from by omega] at this
theorem factLog26 (i:Int) (h1:-26≤i) (h2:i≤26):FactK (lowerLogQ 0 4611140783377913010) (lookI (idxLogQ 0 4611140783377913010)) 4608353354703133737 26 i:=by
  have:=chunkK_is lookLog26_0 (i - (-26)).toNat (by omega)
  rwa [show (-26:Int)+((i - (-26)).toNat:Int)=i from by omega] at this
theorem factLog27 (i:Int) (h1:-25≤i) (h2:i≤25):FactK (lowerLogQ 0 4610812058799589437) (lookI (idxLogQ 0 4610812058799589437)) 4608398390699407442 27 i:=by
  have:=chunkK_is lookLog27_0 (i - (-25)).toNat (by omega)
  rwa [show (-25:Int)+((i - (-25)).toNat:Int)=i from by omega] at this
theorem factLog28 (i:Int) (h1:-25≤i) (h2:i≤25):FactK (lowerLogQ 0 4610506209299859922) (lookI (idxLogQ 0 4610506209299859922)) 4608443426695681147 28 i:=by
  have:=chunkK_is lookLog28_0 (i - (-25)).toNat (by omega)
  rwa [show (-25:Int)+((i - (-25)).toNat:Int)=i from by omega] at this
theorem factLog29 (i:Int) (h1:-24≤i) (h2:i≤24):FactK (lowerLogQ 0 4610220862892121518) (lookI (idxLogQ 0 4610220862892121518)) 4608488462691954852 29 i:=by
  have:=chunkK_is lookLog29_0 (i - (-24)).toNat (by omega)
  rwa [show (-24:Int)+((i - (-24)).toNat:Int)=i from by omega] at this
theorem factLog30 (i:Int) (h1:-23≤i) (h2:i≤23):FactK (lowerLogQ 0 4609953963567725617) (lookI (idxLogQ 0 4609953963567725617)) 4608533498688228558 30 i:=by
  have:=chunkK_is lookLog30_0 (i - (-23)).toNat (by omega)
  rwa [show (-23:Int)+((i - (-23)).toNat:Int)=i from by omega] at this
theorem factLog31 (i:Int) (h1:-22≤i) (h2:i≤22):FactK (lowerLogQ 0 4609703720320315841) (lookI (idxLogQ 0 4609703720320315841)) 4608578534684502262 31 i:=by
  have:=chunkK_is lookLog31_0 (i - (-22)).toNat (by omega)
  rwa [show (-22:Int)+((i - (-22)).toNat:Int)=i from by omega] at this
theorem factLog32 (i:Int) (h1:-21≤i) (h2:i≤21):FactK (lowerLogQ 0 4609468565727281664) (lookI (idxLogQ 0 4609468565727281664)) 4608623570680775967 32 i:=by
  have:=chunkK_is lookLog32_0 (i - (-21)).toNat (by omega)
  rwa [show (-21:Int)+((i - (-21)).toNat:Int)=i from by omega] at this
theorem factLog33 (i:Int) (h1:-21≤i) (h2:i≤21):FactK (lowerLogQ 0 4609247122060998742) (lookI (idxLogQ 0 4609247122060998742)) 4608668606677049672 33 i:=by
  have:=chunkK_is lookLog33_0 (i - (-21)).toNat (by omega)
  rwa [show (-21:Int)+((i - (-21)).toNat:Int)=i from by omega] at this
theorem factLog34 (i:Int) (h1:-20≤i) (h2:i≤20):FactK (lowerLogQ 0 4609038173379539422) (lookI (idxLogQ 0 4609038173379539422)) 4608713642673323377 34 i:=by
  have:=chunkK_is lookLog34_0 (i - (-20)).toNat (by omega)
  rwa [show (-20:Int)+((i - (-20)).toNat:Int)=i from by omega] at this
theorem factLog35 (i:Int) (h1:-19≤i) (h2:i≤19):FactK (lowerLogQ 0 4608840642400888357) (lookI (idxLogQ 0 4608840642400888357)) 4608758678669597082 35 i:=by
  have:=chunkK_is lookLog35_0 (i - (-19)).toNat (by omega)
  rwa [show (-19:Int)+((i - (-19)).toNat:Int)=i from by omega] at this
theorem factLog36 (i:Int) (h1:-19≤i) (h2:i≤19):FactK (lowerLogQ 0 4608653571230460981) (lookI (idxLogQ 0 4608653571230460981)) 4608803714665870786 36 i:=by
  have:=chunkK_is lookLog36_0 (i - (-19)).toNat (by omega)
  rwa [show (-19:Int)+((i - (-19)).toNat:Int)=i from by omega] at this
theorem factLog37 (i:Int) (h1:-18≤i) (h2:i≤18):FactK (lowerLogQ 0 4608476105212839592) (lookI (idxLogQ 0 4608476105212839592)) 4608848750662144492 37 i:=by
  have:=chunkK_is lookLog37_0 (i - (-18)).toNat (by omega)
  rwa [show (-18:Int)+((i - (-18)).toNat:Int)=i from by omega] at this
theorem factLog38 (i:Int) (h1:-18≤i) (h2:i≤18):FactK (lowerLogQ 0 4608307479332124942) (lookI (idxLogQ 0 4608307479332124942)) 4608893786658418196 38 i:=by
  have:=chunkK_is lookLog38_0 (i - (-18)).toNat (by omega)
  rwa [show (-18:Int)+((i - (-18)).toNat:Int)=i from by omega] at this
theorem factLog39 (i:Int) (h1:-17≤i) (h2:i≤17):FactK (lowerLogQ 0 4608147006703364017) (lookI (idxLogQ 0 4608147006703364017)) 4608938822654691902 39 i:=by
  have:=chunkK_is lookLog39_0 (i - (-17)).toNat (by omega)
  rwa [show (-17:Int)+((i - (-17)).toNat:Int)=i from by omega] at this
theorem factLog40 (i:Int) (h1:-17≤i) (h2:i≤17):FactK (lowerLogQ 0 4607994068789012533) (lookI (idxLogQ 0 4607994068789012533)) 4608983858650965606 40 i:=by
  have:=chunkK_is lookLog40_0 (i - (-17)).toNat (by omega)
  rwa [show (-17:Int)+((i - (-17)).toNat:Int)=i from by omega] at this
theorem factLog41 (i:Int) (h1:-16≤i) (h2:i≤16):FactK (lowerLogQ 0 4607848107045801954) (lookI (idxLogQ 0 4607848107045801954)) 4609028894647239311 41 i:=by
  have:=chunkK_is lookLog41_0 (i - (-16)).toNat (by omega)
  rwa [show (-16:Int)+((i - (-16)).toNat:Int)=i from by omega] at this
theorem factLog42 (i:Int) (h1:-16≤i) (h2:i≤16):FactK (lowerLogQ 0 4607708615763488624) (lookI (idxLogQ 0 4607708615763488624)) 4609073930643513016 42 i:=by
  have:=chunkK_is lookLog42_0 (i - (-16)).toNat (by omega)
  rwa [show (-16:Int)+((i - (-16)).toNat:Int)=i from by omega] at this
theorem factLog43 (i:Int) (h1:-16≤i) (h2:i≤16):FactK (lowerLogQ 0 4607575135901325166) (lookI (idxLogQ 0 4607575135901325166)) 4609118966639786721 43 i:=by
  have:=chunkK_is lookLog43_0 (i - (-16)).toNat (by omega)
  rwa [show (-16:Int)+((i - (-16)).toNat:Int)=i from by omega] at this
theorem factLog44 (i:Int) (h1:-15≤i) (h2:i≤15):FactK (lowerLogQ 0 4607447249763380839) (lookI (idxLogQ 0 4607447249763380839)) 4609164002636060426 44 i:=by
  have:=chunkK_is lookLog44_0 (i - (-15)).toNat (by omega)
  rwa [show (-15:Int)+((i - (-15)).toNat:Int)=i from by omega] at this
theorem factLog45 (i:Int) (h1:-15≤i) (h2:i≤15):FactK (lowerLogQ 0 4607324576382064951) (lookI (idxLogQ 0 4607324576382064951)) 4609209038632334131 45 i:=by
  have:=chunkK_is lookLog45_0 (i - (-15)).toNat (by omega)
  rwa [show (-15:Int)+((i - (-15)).toNat:Int)=i from by omega] at this
theorem factLog46 (i:Int) (h1:-14≤i) (h2:i≤14):FactK (lowerLogQ 0 4607206767501909589) (lookI (idxLogQ 0 4607206767501909589)) 4609254074628607836 46 i:=by
  have:=chunkK_is lookLog46_0 (i - (-14)).toNat (by omega)
  rwa [show (-14:Int)+((i - (-14)).toNat:Int)=i from by omega] at this
theorem factLog47 (i:Int) (h1:-14≤i) (h2:i≤14):FactK (lowerLogQ 0 4607004589348023346) (lookI (idxLogQ 0 4607004589348023346)) 4609299110624881541 47 i:=by
  have:=chunkK_is lookLog47_0 (i - (-14)).toNat (by omega)
  rwa [show (-14:Int)+((i - (-14)).toNat:Int)=i from by omega] at this
theorem factLog48 (i:Int) (h1:-14≤i) (h2:i≤14):FactK (lowerLogQ 0 4606786567573007331) (lookI (idxLogQ 0 4606786567573007331)) 4609344146621155246 48 i:=by
  have:=chunkK_is lookLog48_0 (i - (-14)).toNat (by omega)
  rwa [show (-14:Int)+((i - (-14)).toNat:Int)=i from by omega] at this
theorem factLog49 (i:Int) (h1:-13≤i) (h2:i≤13):FactK (lowerLogQ 0 4606576511936812258) (lookI (idxLogQ 0 4606576511936812258)) 4609389182617428951 49 i:=by
  have:=chunkK_is lookLog49_0 (i - (-13)).toNat (by omega)
  rwa [show (-13:Int)+((i - (-13)).toNat:Int)=i from by omega] at this
theorem factLog50 (i:Int) (h1:-13≤i) (h2:i≤13):FactK (lowerLogQ 0 4606373925628985684) (lookI (idxLogQ 0 4606373925628985684)) 4609434218613702656 50 i:=by
  have:=chunkK_is lookLog50_0 (i - (-13)).toNat (by omega)
  rwa [show (-13:Int)+((i - (-13)).toNat:Int)=i from by omega] at this
end Go.Proofs.YtllaekopaglolaaGreat
end
