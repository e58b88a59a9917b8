/-
  The logarithmic mapping of each accuracy: what it tells. (Printed by gen_ok4.py.)
-/
import Derived.Test.YtllaekopaglolaaGreatHBP
import Derived.Test.YtllaekopaglolaaGreatHBU
import Derived.Test.YtllaekopaglolaaGreatHBY
import Derived.Test.YtllaekopaglolaaGreatHBZ
import Derived.Test.YtllaekopaglolaaGreatHCA
import Derived.Test.YtllaekopaglolaaGreatHCB
import Derived.Test.YtllaekopaglolaaGreatHCC
import Derived.Test.YtllaekopaglolaaGreatHBQ
import Derived.Deep.SlicePairs
import Derived.ProofKit
import Derived.Test.YtllaekopaglolaaGreatHBT
import Derived.Test.YtllaekopaglolaaGreatHAJ
import Derived.Below
import Derived.ChangeSame
section
namespace Go.Proofs.YtllaekopaglolaaGreat
open Go.RowKit
open Ieee
set_option maxRecDepth 100000
set_option exponentiation.threshold 5000
theorem zA2 {p off mult rb:Nat} (i0 i1:Int) (a part:Nat) (fact:∀ i,i0≤i→i≤i1+1→zHx (zAF off mult) (zAL (zAM off mult)) rb p i)
    (par:zEm zN3 zNa (zAM off mult) a off mult rb i0 i1=true:=by decide +kernel) (hm:zD4 mult=true:=by decide +kernel) (ho:zEb off=true:=by decide +kernel) (hp:zDg p a part=true:=by decide +kernel) (p1:1≤p:=by decide) (p2:p≤50:=by decide) (b0:-5000≤i0:=by decide) (b1:i1≤5000:=by decide):zHw zGC zEK zCv zCY zD1 p :=
  zIE zR5 zU5 zUh zPN (fun _ _ _ _=>rfl) (fun hm ho c1 c2 o1 o2 _ _ h1 h h2=>zNA hm ho c1 c2 o1 o2 h1 h h2) par fact hm ho hp p1 p2 b0 b1
theorem zXe (p:Nat) (h1:1≤p) (h2:p≤50):zHw zGC zEK zCv zCY zD1 p:=by
  match p,h1,h2 with
  | 0,h,_=>exact absurd h (by decide)
  | 1,_,_=>exact zA2 (-691) 690 4576918229304087675 4576918229310428744 fun i _ _=>if c0:i < -441 then zAA zPi else if c1:i < -191 then zAA zPh else if c2:i<59 then zAA zPg else if c3:i<309 then zAA zPf else if c4:i<559 then zAA zPe else zAA zPd
  | 2,_,_=>exact zA2 (-346) 345 4581421828931458171 4581421828937511009 fun i _ _=>if c0:i < -96 then zAA zPc else if c1:i<154 then zAA zPb else zAA zPa
  | 3,_,_=>exact zA2 (-231) 230 4584304132692975288 4584304132701910430 fun i _ _=>if c0:i<19 then zAA zPZ else zAA zPY
  | 4,_,_=>exact zA2 (-173) 172 4585925428558828667 4585925428564737390 fun i _ _=>if c0:i<77 then zAA zPX else zAA zPW
  | 5,_,_=>exact zA2 (-139) 138 4587366580439587226 4587366580446937101 fun i _ _=>if c0:i<111 then zAA zPV else zAA zPU
  | 6,_,_=>exact zA2 (-115) 114 4588807732320345784 4588807732329136811 fun i _ _=>zAA zPT
  | 7,_,_=>exact zA2 (-99) 98 4589708452245819884 4589708452250935974 fun i _ _=>zAA zPS
  | 8,_,_=>exact zA2 (-87) 86 4590429028186199163 4590429028192035829 fun i _ _=>zAA zPR
  | 9,_,_=>exact zA2 (-77) 76 4591149604126578442 4591149604133135684 fun i _ _=>zAA zPQ
  | 10,_,_=>exact zA2 (-69) 68 4591870180066957722 4591870180074235540 fun i _ _=>zAA zLc
  | 11,_,_=>exact zA2 (-63) 62 4592590756007337001 4592590756015335395 fun i _ _=>zAA zLb
  | 12,_,_=>exact zA2 (-58) 57 4593311331947716280 4593311331956435250 fun i _ _=>zAA zLa
  | 13,_,_=>exact zA2 (-53) 52 4593851763903000740 4593851763907720513 fun i _ _=>zAA zLZ
  | 14,_,_=>exact zA2 (-50) 49 4594212051873190380 4594212051878270441 fun i _ _=>zAA zLY
  | 15,_,_=>exact zA2 (-46) 45 4594572339843380019 4594572339848820368 fun i _ _=>zAA zLX
  | 16,_,_=>exact zA2 (-43) 42 4594932627813569659 4594932627819370296 fun i _ _=>zAA zLW
  | 17,_,_=>exact zA2 (-41) 40 4595292915783759299 4595292915789920224 fun i _ _=>zAA zLV
  | 18,_,_=>exact zA2 (-38) 37 4595653203753948938 4595653203760470151 fun i _ _=>zAA zLU
  | 19,_,_=>exact zA2 (-36) 35 4596013491724138578 4596013491731020079 fun i _ _=>zAA zLT
  | 20,_,_=>exact zA2 (-35) 34 4596373779694328218 4596373779701570007 fun i _ _=>zAA zLS
  | 21,_,_=>exact zA2 (-33) 32 4596734067664517857 4596734067672119934 fun i _ _=>zAA zLR
  | 22,_,_=>exact zA2 (-31) 30 4597094355634707497 4597094355642669862 fun i _ _=>zAA zLQ
  | 23,_,_=>exact zA2 (-30) 29 4597454643604897137 4597454643613219790 fun i _ _=>zAA zLP
  | 24,_,_=>exact zA2 (-29) 28 4597814931575086776 4597814931583769717 fun i _ _=>zAA zLO
  | 25,_,_=>exact zA2 (-28) 27 4598175219545276416 4598175219549798030 fun i _ _=>zAA zLN
  | 26,_,_=>exact zA2 (-26) 25 4598355363530371236 4598355363535072994 fun i _ _=>zAA zLM
  | 27,_,_=>exact zA2 (-25) 24 4598535507515466056 4598535507520347958 fun i _ _=>zAA zLL
  | 28,_,_=>exact zA2 (-25) 24 4598715651500560876 4598715651505622922 fun i _ _=>zAA zLK
  | 29,_,_=>exact zA2 (-24) 23 4598895795485655695 4598895795490897885 fun i _ _=>zAA zLJ
  | 30,_,_=>exact zA2 (-23) 22 4599075939470750515 4599075939476172849 fun i _ _=>zAA zLI
  | 31,_,_=>exact zA2 (-22) 21 4599256083455845335 4599256083461447813 fun i _ _=>zAA zLH
  | 32,_,_=>exact zA2 (-21) 20 4599436227440940155 4599436227446722777 fun i _ _=>zAA zLG
  | 33,_,_=>exact zA2 (-21) 20 4599616371426034975 4599616371431997741 fun i _ _=>zAA zLF
  | 34,_,_=>exact zA2 (-20) 19 4599796515411129795 4599796515417272705 fun i _ _=>zAA zLE
  | 35,_,_=>exact zA2 (-19) 18 4599976659396224614 4599976659402547668 fun i _ _=>zAA zLD
  | 36,_,_=>exact zA2 (-19) 18 4600156803381319434 4600156803387822632 fun i _ _=>zAA zLC
  | 37,_,_=>exact zA2 (-18) 17 4600336947366414254 4600336947373097596 fun i _ _=>zAA zLB
  | 38,_,_=>exact zA2 (-18) 17 4600517091351509074 4600517091358372560 fun i _ _=>zAA zLA
  | 39,_,_=>exact zA2 (-17) 16 4600697235336603894 4600697235343647524 fun i _ _=>zAA zK9
  | 40,_,_=>exact zA2 (-17) 16 4600877379321698714 4600877379328922488 fun i _ _=>zAA zK8
  | 41,_,_=>exact zA2 (-16) 15 4601057523306793533 4601057523314197451 fun i _ _=>zAA zK7
  | 42,_,_=>exact zA2 (-16) 15 4601237667291888353 4601237667299472415 fun i _ _=>zAA zK6
  | 43,_,_=>exact zA2 (-16) 15 4601417811276983173 4601417811284747379 fun i _ _=>zAA zK5
  | 44,_,_=>exact zA2 (-15) 14 4601597955262077993 4601597955270022343 fun i _ _=>zAA zK4
  | 45,_,_=>exact zA2 (-15) 14 4601778099247172813 4601778099255297307 fun i _ _=>zAA zK3
  | 46,_,_=>exact zA2 (-14) 13 4601958243232267633 4601958243240572271 fun i _ _=>zAA zK2
  | 47,_,_=>exact zA2 (-14) 13 4602138387217362452 4602138387225847234 fun i _ _=>zAA zK1
  | 48,_,_=>exact zA2 (-14) 13 4602318531202457272 4602318531211122198 fun i _ _=>zAA zK0
  | 49,_,_=>exact zA2 (-13) 12 4602498675187552092 4602498675196397162 fun i _ _=>zAA zKz
  | 50,_,_=>exact zA2 (-13) 12 4602678819172646912 4602678819177159519 fun i _ _=>zAA zKy
  | n+51,_,h=>exact absurd h (by omega)
end Go.Proofs.YtllaekopaglolaaGreat
end
/-
  The linearly interpolated mapping of each accuracy: what it tells. (Printed by gen_ok4.py.)
-/
section
namespace Go.Proofs.YtllaekopaglolaaGreat
open Go.RowKit
open Ieee
set_option maxRecDepth 100000
set_option exponentiation.threshold 5000
theorem zA3 {p off mult rb:Nat} (i0 i1:Int) (a part:Nat) (fact:∀ i,i0≤i→i≤i1+1→zHx (zAC off mult) (zAL (zAJ off mult)) rb p i)
    (par:zEm zN4 zNb (zAJ off mult) a off mult rb i0 i1=true:=by decide +kernel) (hm:zD4 mult=true:=by decide +kernel) (ho:zEb off=true:=by decide +kernel) (hp:zDg p a part=true:=by decide +kernel) (p1:1≤p:=by decide) (p2:p≤50:=by decide) (b0:-5000≤i0:=by decide) (b1:i1≤5000:=by decide):zHw zGD zEL zCw zCZ zD2 p :=
  zIE zR7 zU6 zUi zPO (fun _ _ _ _=>rfl) (fun hm ho c1 c2 o1 o2 _ _ h1 h h2=>zNB hm ho c1 c2 o1 o2 h1 h h2) par fact hm ho hp p1 p2 b0 b1
theorem zXf (p:Nat) (h1:1≤p) (h2:p≤50):zHw zGD zEL zCw zCZ zD2 p:=by
  match p,h1,h2 with
  | 0,h,_=>exact absurd h (by decide)
  | 1,_,_=>exact zA3 (-948) 1045 4576918229304087675 4576918229310428744 fun i _ _=>if c0:i < -698 then zAA zQB else if c1:i < -448 then zAA zQA else if c2:i < -198 then zAA zP9 else if c3:i<52 then zAA zP8 else if c4:i<302 then zAA zP7 else if c5:i<552 then zAA zP6 else if c6:i<802 then zAA zP5 else zAA zP4
  | 2,_,_=>exact zA3 (-474) 522 4581421828931458171 4581421828937511009 fun i _ _=>if c0:i < -224 then zAA zP3 else if c1:i<26 then zAA zPz else if c2:i<276 then zAA zPy else zAA zPx
  | 3,_,_=>exact zA3 (-316) 348 4584304132692975288 4584304132701910430 fun i _ _=>if c0:i < -66 then zAA zPw else if c1:i<184 then zAA zPv else zAA zPu
  | 4,_,_=>exact zA3 (-237) 261 4585925428558828667 4585925428564737390 fun i _ _=>if c0:i<13 then zAA zPt else zAA zPs
  | 5,_,_=>exact zA3 (-190) 208 4587366580439587226 4587366580446937101 fun i _ _=>if c0:i<60 then zAA zPr else zAA zPq
  | 6,_,_=>exact zA3 (-158) 174 4588807732320345784 4588807732329136811 fun i _ _=>if c0:i<92 then zAA zPp else zAA zPo
  | 7,_,_=>exact zA3 (-136) 149 4589708452245819884 4589708452250935974 fun i _ _=>if c0:i<114 then zAA zPn else zAA zPm
  | 8,_,_=>exact zA3 (-119) 130 4590429028186199163 4590429028192035829 fun i _ _=>if c0:i<131 then zAA zPl else zAA zPk
  | 9,_,_=>exact zA3 (-106) 115 4591149604126578442 4591149604133135684 fun i _ _=>zAA zPj
  | 10,_,_=>exact zA3 (-95) 104 4591870180066957722 4591870180074235540 fun i _ _=>zAA zMH
  | 11,_,_=>exact zA3 (-86) 94 4592590756007337001 4592590756015335395 fun i _ _=>zAA zMG
  | 12,_,_=>exact zA3 (-79) 86 4593311331947716280 4593311331956435250 fun i _ _=>zAA zMF
  | 13,_,_=>exact zA3 (-73) 79 4593851763903000740 4593851763907720513 fun i _ _=>zAA zME
  | 14,_,_=>exact zA3 (-68) 74 4594212051873190380 4594212051878270441 fun i _ _=>zAA zMD
  | 15,_,_=>exact zA3 (-63) 69 4594572339843380019 4594572339848820368 fun i _ _=>zAA zMC
  | 16,_,_=>exact zA3 (-59) 64 4594932627813569659 4594932627819370296 fun i _ _=>zAA zMB
  | 17,_,_=>exact zA3 (-56) 60 4595292915783759299 4595292915789920224 fun i _ _=>zAA zMA
  | 18,_,_=>exact zA3 (-53) 57 4595653203753948938 4595653203760470151 fun i _ _=>zAA zL9
  | 19,_,_=>exact zA3 (-50) 54 4596013491724138578 4596013491731020079 fun i _ _=>zAA zL8
  | 20,_,_=>exact zA3 (-47) 51 4596373779694328218 4596373779701570007 fun i _ _=>zAA zL7
  | 21,_,_=>exact zA3 (-45) 49 4596734067664517857 4596734067672119934 fun i _ _=>zAA zL6
  | 22,_,_=>exact zA3 (-43) 46 4597094355634707497 4597094355642669862 fun i _ _=>zAA zL5
  | 23,_,_=>exact zA3 (-41) 44 4597454643604897137 4597454643613219790 fun i _ _=>zAA zL4
  | 24,_,_=>exact zA3 (-39) 42 4597814931575086776 4597814931583769717 fun i _ _=>zAA zL3
  | 25,_,_=>exact zA3 (-38) 40 4598175219545276416 4598175219549798030 fun i _ _=>zAA zL2
  | 26,_,_=>exact zA3 (-36) 39 4598355363530371236 4598355363535072994 fun i _ _=>zAA zL1
  | 27,_,_=>exact zA3 (-35) 37 4598535507515466056 4598535507520347958 fun i _ _=>zAA zL0
  | 28,_,_=>exact zA3 (-33) 36 4598715651500560876 4598715651505622922 fun i _ _=>zAA zLz
  | 29,_,_=>exact zA3 (-32) 35 4598895795485655695 4598895795490897885 fun i _ _=>zAA zLy
  | 30,_,_=>exact zA3 (-31) 33 4599075939470750515 4599075939476172849 fun i _ _=>zAA zLx
  | 31,_,_=>exact zA3 (-30) 32 4599256083455845335 4599256083461447813 fun i _ _=>zAA zLw
  | 32,_,_=>exact zA3 (-29) 31 4599436227440940155 4599436227446722777 fun i _ _=>zAA zLv
  | 33,_,_=>exact zA3 (-28) 30 4599616371426034975 4599616371431997741 fun i _ _=>zAA zLu
  | 34,_,_=>exact zA3 (-27) 29 4599796515411129795 4599796515417272705 fun i _ _=>zAA zLt
  | 35,_,_=>exact zA3 (-26) 28 4599976659396224614 4599976659402547668 fun i _ _=>zAA zLs
  | 36,_,_=>exact zA3 (-26) 27 4600156803381319434 4600156803387822632 fun i _ _=>zAA zLr
  | 37,_,_=>exact zA3 (-25) 26 4600336947366414254 4600336947373097596 fun i _ _=>zAA zLq
  | 38,_,_=>exact zA3 (-24) 26 4600517091351509074 4600517091358372560 fun i _ _=>zAA zLp
  | 39,_,_=>exact zA3 (-24) 25 4600697235336603894 4600697235343647524 fun i _ _=>zAA zLo
  | 40,_,_=>exact zA3 (-23) 24 4600877379321698714 4600877379328922488 fun i _ _=>zAA zLn
  | 41,_,_=>exact zA3 (-22) 23 4601057523306793533 4601057523314197451 fun i _ _=>zAA zLm
  | 42,_,_=>exact zA3 (-22) 23 4601237667291888353 4601237667299472415 fun i _ _=>zAA zLl
  | 43,_,_=>exact zA3 (-21) 22 4601417811276983173 4601417811284747379 fun i _ _=>zAA zLk
  | 44,_,_=>exact zA3 (-21) 22 4601597955262077993 4601597955270022343 fun i _ _=>zAA zLj
  | 45,_,_=>exact zA3 (-20) 21 4601778099247172813 4601778099255297307 fun i _ _=>zAA zLi
  | 46,_,_=>exact zA3 (-20) 21 4601958243232267633 4601958243240572271 fun i _ _=>zAA zLh
  | 47,_,_=>exact zA3 (-19) 20 4602138387217362452 4602138387225847234 fun i _ _=>zAA zLg
  | 48,_,_=>exact zA3 (-19) 19 4602318531202457272 4602318531211122198 fun i _ _=>zAA zLf
  | 49,_,_=>exact zA3 (-18) 19 4602498675187552092 4602498675196397162 fun i _ _=>zAA zLe
  | 50,_,_=>exact zA3 (-18) 19 4602678819172646912 4602678819177159519 fun i _ _=>zAA zLd
  | n+51,_,h=>exact absurd h (by omega)
end Go.Proofs.YtllaekopaglolaaGreat
end
/-
  The cubically interpolated mapping of each accuracy: what it tells. (Printed by gen_ok4.py.)
-/
section
namespace Go.Proofs.YtllaekopaglolaaGreat
open Go.RowKit
open Ieee
set_option maxRecDepth 100000
set_option exponentiation.threshold 5000
theorem zA4 {p off mult rb:Nat} (i0 i1:Int) (a part:Nat) (fact:∀ i,i0≤i→i≤i1+1→zHx (zAG off mult) (zAk (zAN off mult)) rb p i) (h01:i0≤i1:=by decide)
    (par:zEm zN5 zNc (zAN off mult) a off mult rb i0 i1=true:=by decide +kernel) (hm:zD4 mult=true:=by decide +kernel) (ho:zEb off=true:=by decide +kernel) (hp:zDg p a part=true:=by decide +kernel) (p1:1≤p:=by decide) (p2:p≤50:=by decide) (b0:-5000≤i0:=by decide) (b1:i1≤5000:=by decide):zHw zGE zEM zCx zCa zD3 p :=
  zPM zR9 zU7 zUj zPP (fun _ _ _ _=>rfl) (fun hm ho c1 c2 o1 o2 _ _ h1 h h2=>zNC hm ho c1 c2 o1 o2 h1 h h2) (fun hm ho c1 c2 o1 o2 _ h1 h2=>⟨_,zFu hm ho c1 c2 o1 o2 h1 h2 1022 rfl⟩) par fact h01 hm ho hp p1 p2 b0 b1
theorem zXg (p:Nat) (h1:1≤p) (h2:p≤50):zHw zGE zEM zCx zCa zD3 p:=by
  match p,h1,h2 with
  | 0,h,_=>exact absurd h (by decide)
  | 1,_,_=>exact zA4 (-698) 697 4576918229304087675 4576918229310428744 fun i _ _=>if c0:i < -448 then zAA zQU else if c1:i < -198 then zAA zQT else if c2:i<52 then zAA zQS else if c3:i<302 then zAA zQR else if c4:i<552 then zAA zQQ else zAA zQP
  | 2,_,_=>exact zA4 (-349) 348 4581421828931458171 4581421828937511009 fun i _ _=>if c0:i < -99 then zAA zQO else if c1:i<151 then zAA zQN else zAA zQM
  | 3,_,_=>exact zA4 (-233) 232 4584304132692975288 4584304132701910430 fun i _ _=>if c0:i<17 then zAA zQL else zAA zQK
  | 4,_,_=>exact zA4 (-175) 174 4585925428558828667 4585925428564737390 fun i _ _=>if c0:i<75 then zAA zQJ else zAA zQI
  | 5,_,_=>exact zA4 (-140) 139 4587366580439587226 4587366580446937101 fun i _ _=>if c0:i<110 then zAA zQH else zAA zQG
  | 6,_,_=>exact zA4 (-117) 116 4588807732320345784 4588807732329136811 fun i _ _=>zAA zQF
  | 7,_,_=>exact zA4 (-100) 99 4589708452245819884 4589708452250935974 fun i _ _=>zAA zQE
  | 8,_,_=>exact zA4 (-88) 87 4590429028186199163 4590429028192035829 fun i _ _=>zAA zQD
  | 9,_,_=>exact zA4 (-78) 77 4591149604126578442 4591149604133135684 fun i _ _=>zAA zQC
  | 10,_,_=>exact zA4 (-70) 69 4591870180066957722 4591870180074235540 fun i _ _=>zAA zMw
  | 11,_,_=>exact zA4 (-64) 63 4592590756007337001 4592590756015335395 fun i _ _=>zAA zMv
  | 12,_,_=>exact zA4 (-58) 57 4593311331947716280 4593311331956435250 fun i _ _=>zAA zMu
  | 13,_,_=>exact zA4 (-54) 53 4593851763903000740 4593851763907720513 fun i _ _=>zAA zMt
  | 14,_,_=>exact zA4 (-50) 49 4594212051873190380 4594212051878270441 fun i _ _=>zAA zMs
  | 15,_,_=>exact zA4 (-47) 46 4594572339843380019 4594572339848820368 fun i _ _=>zAA zMr
  | 16,_,_=>exact zA4 (-44) 43 4594932627813569659 4594932627819370296 fun i _ _=>zAA zMq
  | 17,_,_=>exact zA4 (-41) 40 4595292915783759299 4595292915789920224 fun i _ _=>zAA zMp
  | 18,_,_=>exact zA4 (-39) 38 4595653203753948938 4595653203760470151 fun i _ _=>zAA zMo
  | 19,_,_=>exact zA4 (-37) 36 4596013491724138578 4596013491731020079 fun i _ _=>zAA zMn
  | 20,_,_=>exact zA4 (-35) 34 4596373779694328218 4596373779701570007 fun i _ _=>zAA zMm
  | 21,_,_=>exact zA4 (-33) 32 4596734067664517857 4596734067672119934 fun i _ _=>zAA zMl
  | 22,_,_=>exact zA4 (-32) 31 4597094355634707497 4597094355642669862 fun i _ _=>zAA zMk
  | 23,_,_=>exact zA4 (-30) 29 4597454643604897137 4597454643613219790 fun i _ _=>zAA zMj
  | 24,_,_=>exact zA4 (-29) 28 4597814931575086776 4597814931583769717 fun i _ _=>zAA zMi
  | 25,_,_=>exact zA4 (-28) 27 4598175219545276416 4598175219549798030 fun i _ _=>zAA zMh
  | 26,_,_=>exact zA4 (-27) 26 4598355363530371236 4598355363535072994 fun i _ _=>zAA zMg
  | 27,_,_=>exact zA4 (-26) 25 4598535507515466056 4598535507520347958 fun i _ _=>zAA zMf
  | 28,_,_=>exact zA4 (-25) 24 4598715651500560876 4598715651505622922 fun i _ _=>zAA zMe
  | 29,_,_=>exact zA4 (-24) 23 4598895795485655695 4598895795490897885 fun i _ _=>zAA zMd
  | 30,_,_=>exact zA4 (-23) 22 4599075939470750515 4599075939476172849 fun i _ _=>zAA zMc
  | 31,_,_=>exact zA4 (-22) 21 4599256083455845335 4599256083461447813 fun i _ _=>zAA zMb
  | 32,_,_=>exact zA4 (-22) 21 4599436227440940155 4599436227446722777 fun i _ _=>zAA zMa
  | 33,_,_=>exact zA4 (-21) 20 4599616371426034975 4599616371431997741 fun i _ _=>zAA zMZ
  | 34,_,_=>exact zA4 (-20) 19 4599796515411129795 4599796515417272705 fun i _ _=>zAA zMY
  | 35,_,_=>exact zA4 (-20) 19 4599976659396224614 4599976659402547668 fun i _ _=>zAA zMX
  | 36,_,_=>exact zA4 (-19) 18 4600156803381319434 4600156803387822632 fun i _ _=>zAA zMW
  | 37,_,_=>exact zA4 (-18) 17 4600336947366414254 4600336947373097596 fun i _ _=>zAA zMV
  | 38,_,_=>exact zA4 (-18) 17 4600517091351509074 4600517091358372560 fun i _ _=>zAA zMU
  | 39,_,_=>exact zA4 (-17) 16 4600697235336603894 4600697235343647524 fun i _ _=>zAA zMT
  | 40,_,_=>exact zA4 (-17) 16 4600877379321698714 4600877379328922488 fun i _ _=>zAA zMS
  | 41,_,_=>exact zA4 (-17) 16 4601057523306793533 4601057523314197451 fun i _ _=>zAA zMR
  | 42,_,_=>exact zA4 (-16) 15 4601237667291888353 4601237667299472415 fun i _ _=>zAA zMQ
  | 43,_,_=>exact zA4 (-16) 15 4601417811276983173 4601417811284747379 fun i _ _=>zAA zMP
  | 44,_,_=>exact zA4 (-15) 14 4601597955262077993 4601597955270022343 fun i _ _=>zAA zMO
  | 45,_,_=>exact zA4 (-15) 14 4601778099247172813 4601778099255297307 fun i _ _=>zAA zMN
  | 46,_,_=>exact zA4 (-15) 14 4601958243232267633 4601958243240572271 fun i _ _=>zAA zMM
  | 47,_,_=>exact zA4 (-14) 13 4602138387217362452 4602138387225847234 fun i _ _=>zAA zML
  | 48,_,_=>exact zA4 (-14) 13 4602318531202457272 4602318531211122198 fun i _ _=>zAA zMK
  | 49,_,_=>exact zA4 (-14) 13 4602498675187552092 4602498675196397162 fun i _ _=>zAA zMJ
  | 50,_,_=>exact zA4 (-13) 12 4602678819172646912 4602678819177159519 fun i _ _=>zAA zMI
  | n+51,_,h=>exact absurd h (by omega)
end Go.Proofs.YtllaekopaglolaaGreat
end
/-
  laws.FnQuantiles at every kind; slices of items and of floats that come in.
-/
section
namespace Go.Proofs.YtllaekopaglolaaGreat
open Go.RowKit Go.ChangeShapes Go.WideShapes
set_option exponentiation.threshold 5000
theorem zHJ {P:Nat→Nat→Prop}:∀ (qs:List Nat),(∀ q∈qs,∃ o,P q o)→∃ outs:List Nat,outs.length=qs.length∧∀ i,(h:i<qs.length)→P qs[i] (outs.getD i 0)
  | [],_=>⟨[],rfl,fun i h=>absurd h (Nat.not_lt_zero _)⟩
  | q :: t,h=>by
    obtain ⟨o,ho⟩:=h q List.mem_cons_self
    obtain ⟨outs,hl,hr⟩:=zHJ t (fun q hq=>h q (List.mem_cons_of_mem _ hq))
    refine ⟨o :: outs,by simp [hl],fun i hi=>?_⟩
    cases i with
    | zero=>exact ho
    | succ i=>simpa using hr i (by simpa using hi)
section
variable {H:Type} {enc:TypeId × Value→H} {P:Program} {w:World} {base:Nat} {spare:Nat→Bool} {held:Bool}
theorem zFg {k:FloatKind} {t:TypeId} {fuel:Nat} {cs:List Value} {x:DataW H × List MemPlace} (ht:P.underlying t=some (.float k)) (h:DataW.trod enc P w base spare held fuel t cs=some x):∃ b,cs=[.float k b]∧(Lit.float k b).wf=true:=by
  cases fuel with
  | zero=>simp [DataW.trod] at h
  | succ n =>
    simp only [DataW.trod,ht] at h
    split at h <;> simp_all
theorem zJr {g:Addr} {v:Value} (h:w.cell? (g.add 0)=some v):∃ b off,g=⟨b,off,none⟩:=by
  obtain ⟨b,off,spot⟩:=g
  have:spot=none:=by
    have h2:=World.cell?_spot h
    unfold Addr.add at h2
    split at h2 <;> simp_all
  exact ⟨b,off,by rw [this]⟩
theorem zIA {t e:TypeId} {f0 f1:Field} {ao:Option Addr} {len cap:Nat} {d:DataW H} {p:List MemPlace} (ht:P.underlying t=some (.slice e)) (he:P.underlying e=some (.struct #[f0,f1]))
    (ce:P.cellsOf e=2) (o0:f0.offset=0) (o1:f1.offset=1) (c0:P.cellsOf f0.type=1) (c1:P.cellsOf f1.type=1) (k0:P.underlying f0.type=some (.float .f64)) (k1:P.underlying f1.type=some (.float .f64))
    (h:DataW.Trod enc P w base (fun _=>true) held t (.slice ao len cap) d p) :
    ∃ ps:List (Nat × Nat),ps.length=len∧LieR w ao ps∧∀ q∈ps,q.1<18446744073709551616∧q.2<18446744073709551616:=by
  obtain ⟨n,hn⟩:=h
  rcases Deep.open_slice_pairs ht he ce o0 o1 c0 c1 hn with ⟨hcs,hx⟩ | ⟨a,len',cap',m,n',V0,V1,D0,D1,P0,P1,hcs,_,hl,_,hm,_,hc⟩
  · simp [Value.cells] at hcs
    exact ⟨[],by simp [hcs],.inl rfl,fun q hq=>by cases hq⟩
  · simp [Value.cells] at hcs
    obtain ⟨rfl,rfl,rfl⟩:=hcs
    simp at hm
    subst hm
    have key:∀ i,i<len→∃ q:Nat × Nat,V0 i = .float .f64 q.1∧V1 i = .float .f64 q.2∧q.1<18446744073709551616∧q.2<18446744073709551616:=by
      intro i hi
      obtain ⟨_,_,h3,h4⟩:=hc i (by omega)
      obtain ⟨z,hz,hw0⟩:=zFg k0 h3
      obtain ⟨b,hb,hw⟩:=zFg k1 h4
      simp at hz hb
      exact ⟨(z,b),hz,hb,by simpa [Lit.wf] using hw0,by simpa [Lit.wf] using hw⟩
    obtain ⟨q,hq⟩:=Deep.choose_lt key
    refine ⟨(List.range len).map q,by simp,?_,?_⟩
    · by_cases h0:len=0
      · exact .inl (by simp [h0])
      · right
        obtain ⟨b,off,rfl⟩:=zJr (hc 0 (by omega)).1
        refine ⟨b,off,rfl,fun i hi=>?_⟩
        have hi':i<len:=by simpa using hi
        obtain ⟨h1,h2,_,_⟩:=hc i (by omega)
        rw [add_plain] at h1 h2
        rw [(hq i hi').1] at h1
        rw [(hq i hi').2.1] at h2
        simp only [List.getElem_map,List.getElem_range]
        exact ⟨h1,by rw [← h2]; rfl⟩
    · intro x hx
      obtain ⟨i,hi,rfl⟩:=List.mem_map.1 hx
      exact (hq i (List.mem_range.1 hi)).2.2
theorem zVt {t e:TypeId} {ao:Option Addr} {len cap:Nat} {d:DataW H} {p:List MemPlace} (ht:P.underlying t=some (.slice e)) (he:P.underlying e=some (.float .f64))
    (ce:P.cellsOf e=1) (h:DataW.Trod enc P w base (fun _=>true) held t (.slice ao len cap) d p) :
    ∃ rs:List Nat,rs.length=len∧LieN w ao rs∧∀ q∈rs,q<18446744073709551616:=by
  obtain ⟨n,hn⟩:=h
  rcases Deep.open_slice1 ht ce hn with ⟨hcs,hx⟩ | ⟨a,len',cap',m,n',V,D,Pl,hcs,_,hl,_,hm,_,hc⟩
  · simp [Value.cells] at hcs
    exact ⟨[],by simp [hcs],.inl rfl,fun q hq=>by cases hq⟩
  · simp [Value.cells] at hcs
    obtain ⟨rfl,rfl,rfl⟩:=hcs
    simp at hm
    subst hm
    have key:∀ i,i<len→∃ q:Nat,V i = .float .f64 q∧q<18446744073709551616:=by
      intro i hi
      obtain ⟨_,h4⟩:=hc i (by omega)
      obtain ⟨b,hb,hw⟩:=zFg he h4
      simp at hb
      exact ⟨b,hb,by simpa [Lit.wf] using hw⟩
    obtain ⟨q,hq⟩:=Deep.choose_lt key
    refine ⟨(List.range len).map q,by simp,?_,?_⟩
    · by_cases h0:len=0
      · exact .inl (by simp [h0])
      · right
        obtain ⟨b,off,rfl⟩:=zJr (hc 0 (by omega)).1
        refine ⟨b,off,rfl,fun i hi=>?_⟩
        have hi':i<len:=by simpa using hi
        obtain ⟨h1,_⟩:=hc i (by omega)
        rw [add_plain,(hq i hi').1] at h1
        simp only [List.getElem_map,List.getElem_range]
        exact h1
    · intro x hx
      obtain ⟨i,hi,rfl⟩:=List.mem_map.1 hx
      exact (hq i (List.mem_range.1 hi)).2
end
end Go.Proofs.YtllaekopaglolaaGreat
end
/-
  The parameters of each mapping are near themselves,as Equals asks.
-/
section
namespace Go.Proofs.YtllaekopaglolaaGreat
open Go.RowKit
open Ieee
set_option exponentiation.threshold 5000
set_option maxRecDepth 100000
theorem zID {x:Nat} (h:zD4 x=true):zSJ x=true:=by
  unfold zD4 at h
  rw [Bool.and_eq_true] at h
  have h1:=Nat.le_of_ble_eq_true h.1
  have h2:=Nat.le_of_ble_eq_true h.2
  have hx:=zDP h1 (by omega)
  have ha:absF x=x:=by rw [zDp x (by omega),Nat.mod_eq_of_lt (by omega)]
  have hb:FV 9218868437227405311 ((zAs 9218868437227405311:Nat):Int):=by
    have:=zRb false (r:=9218868437227405311) (by decide)
    simpa using this
  have hlt:rvN x<zAs 9218868437227405311:=by rw [zCT h1]; exact zDK (by omega)
  have hpos:0<rvN x:=by
    have h0:zAs x≠0:=fun e=>by have:=zBl.1 e; omega
    rw [zCT h1]; omega
  have hm:=zBx h1 h2
  obtain ⟨K,hK,hk⟩:=zRa
  rw [hk,hK] at hm
  obtain ⟨d,hd,fd⟩:=zDG hx hx (by rw [Int.sub_self]; decide)
  rw [Int.sub_self] at fd
  have e0:rndI 0 0=0:=by decide +kernel
  rw [e0] at fd
  have hd0:absF d=0:=by
    obtain ⟨s,r,hr,e,ev⟩:=zGg fd
    have hr0:r=0:=by
      refine zBl.1 ?_
      cases s
      · rw [if_neg (by decide)] at ev; omega
      · rw [if_pos rfl] at ev; omega
    subst hr0
    cases s
    · rw [if_neg (by decide)] at e
      rw [zDp d (by omega),e]
    · rw [if_pos rfl] at e
      rw [zDp d (by omega),e]
  have hy:=zDP (x:=4427486594234968593) (by decide) (by decide)
  have hc:rvN 4427486594234968593≤2^1074:=by decide +kernel
  obtain ⟨m,hm2,fm⟩:=zCQ hy hx (by
    rw [← Int.natCast_mul,Int.natAbs_natCast]
    refine zAg (Nat.lt_of_le_of_lt (Nat.mul_le_mul hc hm) ?_) (by decide)
    rw [show (128:Nat)=2^7 from by decide,← Nat.pow_add,← Nat.pow_add]
    exact Nat.pow_lt_pow_right (by decide) (by decide))
  rw [← Int.natCast_mul,zAj] at fm
  have c1:feq x 0=false:=by rw [zGO hx zA0]; exact decide_eq_false (by omega)
  have c2:fgt x 9218868437227405311=false:=by rw [zBa hx hb]; exact decide_eq_false (by omega)
  have c3:zA7 x=true:=zDC hx
  have c4:fgt x x=false:=by rw [zBa hx hx]; exact decide_eq_false (by omega)
  have c5:fle 0 m=true:=by rw [zGN zA0 fm]; exact decide_eq_true (by omega)
  unfold zSJ
  rw [ha,c1,c2,c3,c4]
  have hd':fsub x x=some d:=hd
  have hm':fmul 4427486594234968593 x=some m:=hm2
  rw [hd']
  show (!false && !false&&true && !false && !false&&(((fmul 4427486594234968593 x).map fun m=>fle (absF d) m) == some true))=true
  rw [hm',hd0]
  show (true&&(some (fle 0 m) == some true))=true
  rw [c5]; rfl
theorem zWm {x:Nat} (h:zEb x=true):zAa x=true:=by
  unfold zEb at h
  unfold zAa
  rw [Bool.or_eq_true] at h
  rcases h with h | h
  · rw [show x=0 from zBT h]; rfl
  · rw [zID (show zD4 x=true from h),Bool.or_true]
def zV6 (ofQ:Nat→Option (Nat × Nat × Nat × Nat × Nat)) (p:Nat):Bool :=
  match qdiv (floatOfInt .f64 p) 4636737291354636288 with
  | some a=>(match ofQ a with | some r=>zD4 r.1&&zEb r.2.1 | none=>false)
  | none=>false
def gAll (ofQ:Nat→Option (Nat × Nat × Nat × Nat × Nat)):Nat→Bool
  | 0=>true
  | n+1=>zV6 ofQ (n+1)&&gAll ofQ n
theorem zSh {ofQ:Nat→Option (Nat × Nat × Nat × Nat × Nat)}:∀ n,gAll ofQ n=true→∀ p,1≤p→p≤n→zV6 ofQ p=true
  | 0,_,p,h1,h2=>by omega
  | n+1,h,p,h1,h2=>by
    unfold gAll at h
    rw [Bool.and_eq_true] at h
    by_cases e:p=n+1
    · rw [e]; exact h.1
    · exact zSh n h.2 p h1 (by omega)
theorem zW5 {of_ ofQ:Nat→Option (Nat × Nat × Nat × Nat × Nat)} (e:∀ a,of_ a=ofQ a) (h:gAll ofQ 50=true) {p a g off mult mn mx:Nat} (p1:1≤p) (p2:p≤50) (ha:fdiv (floatOfInt .f64 p) 4636737291354636288=some a) (ho:of_ a=some (g,off,mult,mn,mx)):zAa g=true∧zAa off=true:=by
  have hl:=zSh 50 h p p1 p2
  unfold zV6 at hl
  rw [← zCG,ha] at hl
  dsimp only at hl
  rw [← e,ho] at hl
  dsimp only at hl
  rw [Bool.and_eq_true] at hl
  exact ⟨by unfold zAa; rw [zID hl.1,Bool.or_true],zWm hl.2⟩
theorem gLog:gAll zN3 50=true:=by decide +kernel
theorem gLin:gAll zN4 50=true:=by decide +kernel
theorem gCub:gAll zN5 50=true:=by decide +kernel
end Go.Proofs.YtllaekopaglolaaGreat
end
/-
  laws.FnQuantilesMerged at every kind.
-/
section
namespace Go.Proofs.YtllaekopaglolaaGreat
open Go.RowKit
set_option exponentiation.threshold 5000
theorem zWJ {xs:Items} (h:∀ q∈xs,zAU q) (hn:xs.length≤120):4*qv (absI xs)≤1099511627776:=by
  have h1:=zA9 (zTV h)
  have e:((2^1098*100*xs.length:Nat):Int)=((1677721600*xs.length:Nat):Int)*2^1074:=by
    have e1:(2:Nat)^1098=16777216*2^1074:=by rw [show (16777216:Nat)=2^24 from by decide,← Nat.pow_add]
    rw [e1,show 16777216*2^1074*100*xs.length=1677721600*xs.length*2^1074 from by
      generalize (2:Nat)^1074=T
      rw [Nat.mul_right_comm 16777216 T 100,Nat.mul_right_comm _ T],Int.natCast_mul _ (2^1074),Int.natCast_pow]
    rfl
  rw [e,zCI _ _ rfl,Rat.intCast_natCast] at h1
  have h2:((1677721600*xs.length:Nat):Rat)≤((201326592000:Nat):Rat):=Rat.natCast_le_natCast.2 (by omega)
  have e3:((201326592000:Nat):Rat)=201326592000:=rfl
  rw [e3] at h2
  grind
theorem zIw {mk st:Int} {K:zAD st} {of_ ofQ:Nat→Option (Nat × Nat × Nat × Nat × Nat)} {acc:Nat→Option Nat} {idx:Nat→Nat→Nat→Option Int} {lower:Nat→Nat→Int→Option Nat} {value:Nat→Nat→Nat→Int→Option Nat}
   (Q:zCJ K) (V:zDq K) (M:zBK mk of_ acc idx lower value) (E:zGS M) (eq:∀ a,of_ a=ofQ a) (hgl:gAll ofQ 50=true) (p:Nat) (p1:1≤p) (p2:p≤50) (ok:zHw of_ acc idx lower value p) (hk:zBg st 100=true) {xs ys:Items} {qs:List Nat}
   (hx:∀ q∈xs,zAU q) (hy:∀ q∈ys,zAU q) (h0:0<xs.length) (h1:0<ys.length) (hn1:xs.length≤60) (hn2:ys.length≤60) (hql:qs.length≤20) (hqo:∀ q∈qs,okQ q=true∧q<18446744073709551616) :
    zTc mk p st xs ys qs:=by
  have x0:xs≠[]:=List.length_pos_iff.1 h0
  have y0:ys≠[]:=List.length_pos_iff.1 h1
  have hz:∀ q∈xs++ys,zAU q:=fun q hq=>(List.mem_append.1 hq).elim (hx q) (hy q)
  have hl:(xs++ys).length=xs.length+ys.length:=List.length_append
  have l0:0<(xs++ys).length:=by omega
  have l1:(xs++ys).length≤120:=by omega
  have l4:(xs++ys).length≤400:=by omega
  obtain ⟨a,g,off,mult,mn,mx,part,x,o1,o2,hb,o3,o4,o5,hi,hm,ht⟩:=zVw ok
  obtain ⟨hg,ho⟩:=zW5 eq hgl p1 p2 o1 o2
  obtain ⟨fp,hP,hP2⟩:=zG5 o5
  obtain ⟨outs,hol,hA⟩:=zHJ qs fun q hq=>zU2 hm hi ht fp hP hP2 p1 p2 hz l0 l4 (hqo q hq).2 (hqo q hq).1
  have hB0:0≤qv (absI (xs++ys)):=by have:=zA9 (zBk (xs++ys)); rwa [zCq] at this
  have hB4:4*qv (absI (xs++ys))≤1099511627776:=zWJ hz l1
  obtain ⟨a1,a2,a3,a4⟩:=zCj hi hz
  obtain ⟨b1,b2,b3,b4⟩:=zDO hi hz
  have hNle:=zDa hz
  obtain ⟨t1,t2⟩:=zGr hi hz
  have hzz:=zGY (xs++ys)
  have hN0:0<totC (xs++ys):=by
    cases xs with
    | nil=>exact absurd rfl x0
    | cons q t =>
      have:=(hx q List.mem_cons_self).c1
      show 0<q.2+totC (t++ys); omega
  refine ⟨a,outs,o1,fun W al ar aq cl cr cq hl1 hl2 hq=>?_,fun c s k l lo hi' y hst hy ax aq cx cq gv W hl hq hv=>?_⟩
  · exact zO8 Q V E 100 a g off mult mn mx cq cl cr (qv (absI (xs++ys))) aq al ar xs ys qs outs W hk o2 hb hi hg ho hl1 hl2 hx hy x0 y0 (by clear fp hP hP2 o5; omega) hB0 hB4 Rat.le_refl hq (Nat.le_trans hql (by decide)) hol ⟨hk,a1,a2,by clear fp hP hP2 o5; omega,by clear fp hP hP2 o5; omega⟩ ⟨hk,b1,b2,by clear fp hP hP2 o5; omega,by clear fp hP hP2 o5; omega⟩ (by clear fp hP hP2 o5; omega) (by clear fp hP hP2 o5; omega) (fun k hk=>(hA k hk).1)
  · exact zRi o3 o4 o5 p1 hz l0 l1 Rat.le_refl hst hy qs outs hol (Nat.le_trans hql (by decide)) (fun i h=>(hA i h).2) ax aq cx cq gv W hl hq hv
theorem zEG (mk pc st:Int) (al ar aq:Option Addr) (cl cr cq:Nat) (ps rs:List (Nat × Nat)) (qs:List Nat) (w:World) (hl:LieR w al ps) (hl2:LieR w ar rs) (hq:LieN w aq qs) (hb:∀ p∈ps,p.1<18446744073709551616∧p.2<18446744073709551616) (hb2:∀ p∈rs,p.1<18446744073709551616∧p.2<18446744073709551616) (hqb:∀ q∈qs,q<18446744073709551616) :
    Calls Tryz.prog 4 #[.int .i64 mk,.int .i64 pc,.int .i64 st,.slice al ps.length cl,.slice ar rs.length cr,.slice aq qs.length cq] w fun e w'=>zOn w e w':=by
  refine zUl mk pc st al ar aq cl cr cq ps rs qs w hl hl2 hq hb hb2 fun xs ys _ _ hx hy h0 hn h1 hn1 hf=>?_
  obtain ⟨⟨k1,k2⟩,⟨c1,c2⟩,⟨s1,s2⟩,l1,ho⟩:=hf
  have hqo:∀ q∈qs,okQ q=true∧q<18446744073709551616:=fun q hq=>⟨List.all_eq_true.1 ho q hq,hqb q hq⟩
  obtain ⟨p,rfl⟩:∃ p:Nat,pc=(p:Int):=⟨pc.toNat,by omega⟩
  have p1:1≤p:=by omega
  have p2:p≤50:=by omega
  have hmk:mk=0∨mk=1∨mk=2:=by omega
  have hst:st=0∨st=1∨st=2:=by omega
  have store:∀ (P:∀ st:Int,zAD st→Prop),(∀ st (K:zAD st),zCJ K→zDq K→zBg st 100=true→P st K)→∃ K,P st K:=fun P h=>by
    rcases hst with rfl | rfl | rfl
    · exact ⟨_,h _ _ skD mgD (by decide)⟩
    · exact ⟨_,h _ _ skS mgS (by decide)⟩
    · exact ⟨_,h _ _ skP mgP (by decide)⟩
  rcases hmk with rfl | rfl | rfl
  · exact (store (fun st _=>zTc 0 p st xs ys qs) fun st K Q V hk=>zIw Q V zOE zWn zR5 gLog p p1 p2 (zXe p p1 p2) hk hx hy h0 h1 hn hn1 l1 hqo).elim fun _ h=>h
  · exact (store (fun st _=>zTc 1 p st xs ys qs) fun st K Q V hk=>zIw Q V zOF zWo zR7 gLin p p1 p2 (zXf p p1 p2) hk hx hy h0 h1 hn hn1 l1 hqo).elim fun _ h=>h
  · exact (store (fun st _=>zTc 2 p st xs ys qs) fun st K Q V hk=>zIw Q V zOG zWp zR9 gCub p p1 p2 (zXg p p1 p2) hk hx hy h0 h1 hn hn1 l1 hqo).elim fun _ h=>h
end Go.Proofs.YtllaekopaglolaaGreat
end
/-
  The row's last step where of the world behind the call 'Below' alone is known.
-/
section
namespace Go.Proofs.YtllaekopaglolaaGreat
open Go.RowKit Go.WideShapes Go.ChangeShapes
section
variable {H:Type} {enc:TypeId × Value→H} {P:Program}
theorem zIg {f:Func} {s:ChangeSpec} {apart fresh handsOn again:Bool} {W W':World} {args:Array Value} {v:Value} {ds gs:List (DataW H)} {before pa pv:List MemPlace}
    (hW:DataW.Whole enc P f.params.toList s.vars apart W args.toList ds gs before)
    (hres:∀ (b:Nat) (sp:Nat→Bool) (hd:Bool),DataW.TrodAll enc P W' b sp hd f.resultTypes.toList (v.resultList f.resultTypes.size) (s.fn H (ds++gs)).results [])
    (hargs:∀ sp:Nat→Bool,(∀ p∈before,sp p.block=true)→DataW.TrodAll enc P W' 0 sp true f.params.toList args.toList (s.fn H (ds++gs)).args pa)
    (hvars:∀ sp:Nat→Bool,(∀ p∈before,sp p.block=true)→DataW.TrodVars enc P W' sp s.vars (s.fn H (ds++gs)).vars pv)
    (hps:before=pa++pv) (hb:Below W.heap.size W W')
    (hok:∀ (j:Nat) (t:TypeId) (r:Value),f.resultTypes[j]?=some t→(v.resultList f.resultTypes.size)[j]?=some r→Value.okWide P W' .any 0 t r) :
    s.post enc P f apart fresh handsOn again W args v W':=by
  have hlt:∀ p∈before,p.block<W.heap.size:=fun p hp=>hW.lt p hp
  have hold:∀ p∈before,(fun b=>decide (b<W.heap.size)) p.block=true:=fun p hp=>by simpa using hlt p hp
  refine ⟨ds,gs,before,[],pa,pv,hW,hres _ _ _,hargs _ hold,hvars _ hold,World.keptBut_mono (fun p hp=>⟨hp,?_⟩) (hb.frame (· ∈ before)),fun _=>?_⟩
  · rw [hps,List.mem_append] at hp
    exact Or.inr hp
  · obtain ⟨_,_,_,_,_,hz,hn⟩:=hW
    refine ⟨hok,_,_,([]++pa)++pv,⟨[]++pa,pv,trodAll_append (hargs _ (fun _ _=>rfl)) (hres _ _ _),hvars _ (fun _ _=>rfl),rfl,?_,?_⟩,?_⟩
    · intro b off hp
      have hin:MemPlace.cell b off∈before:=by rw [hps]; simpa using hp
      rw [hb.frozen (hlt _ hin)]
      exact hz b off hin
    · intro ha
      have:=hn ha
      rw [hps] at this
      simpa using this
    · intro p hp _
      rw [hps]
      simpa using hp
end
end Go.Proofs.YtllaekopaglolaaGreat
end
