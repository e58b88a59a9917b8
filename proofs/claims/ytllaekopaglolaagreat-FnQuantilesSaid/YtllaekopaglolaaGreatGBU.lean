/-
  The linearly interpolated mapping of each accuracy: what it tells. (Printed by gen_mapok.py.)
-/
import Derived.Test.YtllaekopaglolaaGreatGBP
import Derived.Test.YtllaekopaglolaaGreatGBT
section
namespace Go.Proofs.YtllaekopaglolaaGreat
open Go.RowKit
open Ieee
set_option maxRecDepth 100000
set_option exponentiation.threshold 5000
theorem mkLin {p a off mult rb part:Nat} {i0 i1:Int} (par:parLook ofLinQ accLinQ (idxLinQ off mult) a off mult rb i0 i1=true) (fact:∀ i,i0≤i→i≤i1+1→FactK (lowerLinQ off mult) (lookI (idxLinQ off mult)) rb p i)
    (hm:smallB mult=true) (ho:smallZ off=true) (hp:partLook p a part=true) (p1:1≤p) (p2:p≤50) (b0:-5000≤i0) (b1:i1≤5000):MapOk ofLinF accLinF idxLinF lowerLinF valueLinF p :=
  mapOk_mono ofLin_q accLin_q idxLin_q lowerLin_q (fun _ _ _ _=>rfl) (fun hm ho c1 c2 o1 o2 _ _ h1 h h2=>idxLin_mono hm ho c1 c2 o1 o2 h1 h h2) par fact hm ho hp p1 p2 b0 b1
theorem okLin1:MapOk ofLinF accLinF idxLinF lowerLinF valueLinF 1:=mkLin (part:=4576918229310428744) parLin1 (fun i a b=>factLin1 i a (by omega)) (by decide +kernel) (by decide +kernel) (by decide +kernel) (by decide) (by decide) (by decide) (by decide)
theorem okLin2:MapOk ofLinF accLinF idxLinF lowerLinF valueLinF 2:=mkLin (part:=4581421828937511009) parLin2 (fun i a b=>factLin2 i a (by omega)) (by decide +kernel) (by decide +kernel) (by decide +kernel) (by decide) (by decide) (by decide) (by decide)
theorem okLin3:MapOk ofLinF accLinF idxLinF lowerLinF valueLinF 3:=mkLin (part:=4584304132701910430) parLin3 (fun i a b=>factLin3 i a (by omega)) (by decide +kernel) (by decide +kernel) (by decide +kernel) (by decide) (by decide) (by decide) (by decide)
theorem okLin4:MapOk ofLinF accLinF idxLinF lowerLinF valueLinF 4:=mkLin (part:=4585925428564737390) parLin4 (fun i a b=>factLin4 i a (by omega)) (by decide +kernel) (by decide +kernel) (by decide +kernel) (by decide) (by decide) (by decide) (by decide)
theorem okLin5:MapOk ofLinF accLinF idxLinF lowerLinF valueLinF 5:=mkLin (part:=4587366580446937101) parLin5 (fun i a b=>factLin5 i a (by omega)) (by decide +kernel) (by decide +kernel) (by decide +kernel) (by decide) (by decide) (by decide) (by decide)
theorem okLin6:MapOk ofLinF accLinF idxLinF lowerLinF valueLinF 6:=mkLin (part:=4588807732329136811) parLin6 (fun i a b=>factLin6 i a (by omega)) (by decide +kernel) (by decide +kernel) (by decide +kernel) (by decide) (by decide) (by decide) (by decide)
theorem okLin7:MapOk ofLinF accLinF idxLinF lowerLinF valueLinF 7:=mkLin (part:=4589708452250935974) parLin7 (fun i a b=>factLin7 i a (by omega)) (by decide +kernel) (by decide +kernel) (by decide +kernel) (by decide) (by decide) (by decide) (by decide)
theorem okLin8:MapOk ofLinF accLinF idxLinF lowerLinF valueLinF 8:=mkLin (part:=4590429028192035829) parLin8 (fun i a b=>factLin8 i a (by omega)) (by decide +kernel) (by decide +kernel) (by decide +kernel) (by decide) (by decide) (by decide) (by decide)
theorem okLin9:MapOk ofLinF accLinF idxLinF lowerLinF valueLinF 9:=mkLin (part:=4591149604133135684) parLin9 (fun i a b=>factLin9 i a (by omega)) (by decide +kernel) (by decide +kernel) (by decide +kernel) (by decide) (by decide) (by decide) (by decide)
theorem okLin10:MapOk ofLinF accLinF idxLinF lowerLinF valueLinF 10:=mkLin (part:=4591870180074235540) parLin10 (fun i a b=>factLin10 i a (by omega)) (by decide +kernel) (by decide +kernel) (by decide +kernel) (by decide) (by decide) (by decide) (by decide)
theorem okLin11:MapOk ofLinF accLinF idxLinF lowerLinF valueLinF 11:=mkLin (part:=4592590756015335395) parLin11 (fun i a b=>factLin11 i a (by omega)) (by decide +kernel) (by decide +kernel) (by decide +kernel) (by decide) (by decide) (by decide) (by decide)
theorem okLin12:MapOk ofLinF accLinF idxLinF lowerLinF valueLinF 12:=mkLin (part:=4593311331956435250) parLin12 (fun i a b=>factLin12 i a (by omega)) (by decide +kernel) (by decide +kernel) (by decide +kernel) (by decide) (by decide) (by decide) (by decide)
theorem okLin13:MapOk ofLinF accLinF idxLinF lowerLinF valueLinF 13:=mkLin (part:=4593851763907720513) parLin13 (fun i a b=>factLin13 i a (by omega)) (by decide +kernel) (by decide +kernel) (by decide +kernel) (by decide) (by decide) (by decide) (by decide)
theorem okLin14:MapOk ofLinF accLinF idxLinF lowerLinF valueLinF 14:=mkLin (part:=4594212051878270441) parLin14 (fun i a b=>factLin14 i a (by omega)) (by decide +kernel) (by decide +kernel) (by decide +kernel) (by decide) (by decide) (by decide) (by decide)
theorem okLin15:MapOk ofLinF accLinF idxLinF lowerLinF valueLinF 15:=mkLin (part:=4594572339848820368) parLin15 (fun i a b=>factLin15 i a (by omega)) (by decide +kernel) (by decide +kernel) (by decide +kernel) (by decide) (by decide) (by decide) (by decide)
theorem okLin16:MapOk ofLinF accLinF idxLinF lowerLinF valueLinF 16:=mkLin (part:=4594932627819370296) parLin16 (fun i a b=>factLin16 i a (by omega)) (by decide +kernel) (by decide +kernel) (by decide +kernel) (by decide) (by decide) (by decide) (by decide)
theorem okLin17:MapOk ofLinF accLinF idxLinF lowerLinF valueLinF 17:=mkLin (part:=4595292915789920224) parLin17 (fun i a b=>factLin17 i a (by omega)) (by decide +kernel) (by decide +kernel) (by decide +kernel) (by decide) (by decide) (by decide) (by decide)
theorem okLin18:MapOk ofLinF accLinF idxLinF lowerLinF valueLinF 18:=mkLin (part:=4595653203760470151) parLin18 (fun i a b=>factLin18 i a (by omega)) (by decide +kernel) (by decide +kernel) (by decide +kernel) (by decide) (by decide) (by decide) (by decide)
theorem okLin19:MapOk ofLinF accLinF idxLinF lowerLinF valueLinF 19:=mkLin (part:=4596013491731020079) parLin19 (fun i a b=>factLin19 i a (by omega)) (by decide +kernel) (by decide +kernel) (by decide +kernel) (by decide) (by decide) (by decide) (by decide)
theorem okLin20:MapOk ofLinF accLinF idxLinF lowerLinF valueLinF 20:=mkLin (part:=4596373779701570007) parLin20 (fun i a b=>factLin20 i a (by omega)) (by decide +kernel) (by decide +kernel) (by decide +kernel) (by decide) (by decide) (by decide) (by decide)
theorem okLin21:MapOk ofLinF accLinF idxLinF lowerLinF valueLinF 21:=mkLin (part:=4596734067672119934) parLin21 (fun i a b=>factLin21 i a (by omega)) (by decide +kernel) (by decide +kernel) (by decide +kernel) (by decide) (by decide) (by decide) (by decide)
theorem okLin22:MapOk ofLinF accLinF idxLinF lowerLinF valueLinF 22:=mkLin (part:=4597094355642669862) parLin22 (fun i a b=>factLin22 i a (by omega)) (by decide +kernel) (by decide +kernel) (by decide +kernel) (by decide) (by decide) (by decide) (by decide)
theorem okLin23:MapOk ofLinF accLinF idxLinF lowerLinF valueLinF 23:=mkLin (part:=4597454643613219790) parLin23 (fun i a b=>factLin23 i a (by omega)) (by decide +kernel) (by decide +kernel) (by decide +kernel) (by decide) (by decide) (by decide) (by decide)
theorem okLin24:MapOk ofLinF accLinF idxLinF lowerLinF valueLinF 24:=mkLin (part:=4597814931583769717) parLin24 (fun i a b=>factLin24 i a (by omega)) (by decide +kernel) (by decide +kernel) (by decide +kernel) (by decide) (by decide) (by decide) (by decide)
theorem okLin25:MapOk ofLinF accLinF idxLinF lowerLinF valueLinF 25:=mkLin (part:=4598175219549798030) parLin25 (fun i a b=>factLin25 i a (by omega)) (by decide +kernel) (by decide +kernel) (by decide +kernel) (by decide) (by decide) (by decide) (by decide)
theorem okLin26:MapOk ofLinF accLinF idxLinF lowerLinF valueLinF 26:=mkLin (part:=4598355363535072994) parLin26 (fun i a b=>factLin26 i a (by omega)) (by decide +kernel) (by decide +kernel) (by decide +kernel) (by decide) (by decide) (by decide) (by decide)
theorem okLin27:MapOk ofLinF accLinF idxLinF lowerLinF valueLinF 27:=mkLin (part:=4598535507520347958) parLin27 (fun i a b=>factLin27 i a (by omega)) (by decide +kernel) (by decide +kernel) (by decide +kernel) (by decide) (by decide) (by decide) (by decide)
theorem okLin28:MapOk ofLinF accLinF idxLinF lowerLinF valueLinF 28:=mkLin (part:=4598715651505622922) parLin28 (fun i a b=>factLin28 i a (by omega)) (by decide +kernel) (by decide +kernel) (by decide +kernel) (by decide) (by decide) (by decide) (by decide)
theorem okLin29:MapOk ofLinF accLinF idxLinF lowerLinF valueLinF 29:=mkLin (part:=4598895795490897885) parLin29 (fun i a b=>factLin29 i a (by omega)) (by decide +kernel) (by decide +kernel) (by decide +kernel) (by decide) (by decide) (by decide) (by decide)
theorem okLin30:MapOk ofLinF accLinF idxLinF lowerLinF valueLinF 30:=mkLin (part:=4599075939476172849) parLin30 (fun i a b=>factLin30 i a (by omega)) (by decide +kernel) (by decide +kernel) (by decide +kernel) (by decide) (by decide) (by decide) (by decide)
theorem okLin31:MapOk ofLinF accLinF idxLinF lowerLinF valueLinF 31:=mkLin (part:=4599256083461447813) parLin31 (fun i a b=>factLin31 i a (by omega)) (by decide +kernel) (by decide +kernel) (by decide +kernel) (by decide) (by decide) (by decide) (by decide)
theorem okLin32:MapOk ofLinF accLinF idxLinF lowerLinF valueLinF 32:=mkLin (part:=4599436227446722777) parLin32 (fun i a b=>factLin32 i a (by omega)) (by decide +kernel) (by decide +kernel) (by decide +kernel) (by decide) (by decide) (by decide) (by decide)
theorem okLin33:MapOk ofLinF accLinF idxLinF lowerLinF valueLinF 33:=mkLin (part:=4599616371431997741) parLin33 (fun i a b=>factLin33 i a (by omega)) (by decide +kernel) (by decide +kernel) (by decide +kernel) (by decide) (by decide) (by decide) (by decide)
theorem okLin34:MapOk ofLinF accLinF idxLinF lowerLinF valueLinF 34:=mkLin (part:=4599796515417272705) parLin34 (fun i a b=>factLin34 i a (by omega)) (by decide +kernel) (by decide +kernel) (by decide +kernel) (by decide) (by decide) (by decide) (by decide)
theorem okLin35:MapOk ofLinF accLinF idxLinF lowerLinF valueLinF 35:=mkLin (part:=4599976659402547668) parLin35 (fun i a b=>factLin35 i a (by omega)) (by decide +kernel) (by decide +kernel) (by decide +kernel) (by decide) (by decide) (by decide) (by decide)
theorem okLin36:MapOk ofLinF accLinF idxLinF lowerLinF valueLinF 36:=mkLin (part:=4600156803387822632) parLin36 (fun i a b=>factLin36 i a (by omega)) (by decide +kernel) (by decide +kernel) (by decide +kernel) (by decide) (by decide) (by decide) (by decide)
theorem okLin37:MapOk ofLinF accLinF idxLinF lowerLinF valueLinF 37:=mkLin (part:=4600336947373097596) parLin37 (fun i a b=>factLin37 i a (by omega)) (by decide +kernel) (by decide +kernel) (by decide +kernel) (by decide) (by decide) (by decide) (by decide)
theorem okLin38:MapOk ofLinF accLinF idxLinF lowerLinF valueLinF 38:=mkLin (part:=4600517091358372560) parLin38 (fun i a b=>factLin38 i a (by omega)) (by decide +kernel) (by decide +kernel) (by decide +kernel) (by decide) (by decide) (by decide) (by decide)
theorem okLin39:MapOk ofLinF accLinF idxLinF lowerLinF valueLinF 39:=mkLin (part:=4600697235343647524) parLin39 (fun i a b=>factLin39 i a (by omega)) (by decide +kernel) (by decide +kernel) (by decide +kernel) (by decide) (by decide) (by decide) (by decide)
theorem okLin40:MapOk ofLinF accLinF idxLinF lowerLinF valueLinF 40:=mkLin (part:=4600877379328922488) parLin40 (fun i a b=>factLin40 i a (by omega)) (by decide +kernel) (by decide +kernel) (by decide +kernel) (by decide) (by decide) (by decide) (by decide)
theorem okLin41:MapOk ofLinF accLinF idxLinF lowerLinF valueLinF 41:=mkLin (part:=4601057523314197451) parLin41 (fun i a b=>factLin41 i a (by omega)) (by decide +kernel) (by decide +kernel) (by decide +kernel) (by decide) (by decide) (by decide) (by decide)
theorem okLin42:MapOk ofLinF accLinF idxLinF lowerLinF valueLinF 42:=mkLin (part:=4601237667299472415) parLin42 (fun i a b=>factLin42 i a (by omega)) (by decide +kernel) (by decide +kernel) (by decide +kernel) (by decide) (by decide) (by decide) (by decide)
theorem okLin43:MapOk ofLinF accLinF idxLinF lowerLinF valueLinF 43:=mkLin (part:=4601417811284747379) parLin43 (fun i a b=>factLin43 i a (by omega)) (by decide +kernel) (by decide +kernel) (by decide +kernel) (by decide) (by decide) (by decide) (by decide)
theorem okLin44:MapOk ofLinF accLinF idxLinF lowerLinF valueLinF 44:=mkLin (part:=4601597955270022343) parLin44 (fun i a b=>factLin44 i a (by omega)) (by decide +kernel) (by decide +kernel) (by decide +kernel) (by decide) (by decide) (by decide) (by decide)
theorem okLin45:MapOk ofLinF accLinF idxLinF lowerLinF valueLinF 45:=mkLin (part:=4601778099255297307) parLin45 (fun i a b=>factLin45 i a (by omega)) (by decide +kernel) (by decide +kernel) (by decide +kernel) (by decide) (by decide) (by decide) (by decide)
theorem okLin46:MapOk ofLinF accLinF idxLinF lowerLinF valueLinF 46:=mkLin (part:=4601958243240572271) parLin46 (fun i a b=>factLin46 i a (by omega)) (by decide +kernel) (by decide +kernel) (by decide +kernel) (by decide) (by decide) (by decide) (by decide)
theorem okLin47:MapOk ofLinF accLinF idxLinF lowerLinF valueLinF 47:=mkLin (part:=4602138387225847234) parLin47 (fun i a b=>factLin47 i a (by omega)) (by decide +kernel) (by decide +kernel) (by decide +kernel) (by decide) (by decide) (by decide) (by decide)
theorem okLin48:MapOk ofLinF accLinF idxLinF lowerLinF valueLinF 48:=mkLin (part:=4602318531211122198) parLin48 (fun i a b=>factLin48 i a (by omega)) (by decide +kernel) (by decide +kernel) (by decide +kernel) (by decide) (by decide) (by decide) (by decide)
theorem okLin49:MapOk ofLinF accLinF idxLinF lowerLinF valueLinF 49:=mkLin (part:=4602498675196397162) parLin49 (fun i a b=>factLin49 i a (by omega)) (by decide +kernel) (by decide +kernel) (by decide +kernel) (by decide) (by decide) (by decide) (by decide)
theorem okLin50:MapOk ofLinF accLinF idxLinF lowerLinF valueLinF 50:=mkLin (part:=4602678819177159519) parLin50 (fun i a b=>factLin50 i a (by omega)) (by decide +kernel) (by decide +kernel) (by decide +kernel) (by decide) (by decide) (by decide) (by decide)
theorem okLin (p:Nat) (h1:1≤p) (h2:p≤50):MapOk ofLinF accLinF idxLinF lowerLinF valueLinF p:=by
  match p,h1,h2 with
  | 0,h,_=>exact absurd h (by decide)
  | 1,_,_=>exact okLin1
  | 2,_,_=>exact okLin2
  | 3,_,_=>exact okLin3
  | 4,_,_=>exact okLin4
  | 5,_,_=>exact okLin5
  | 6,_,_=>exact okLin6
  | 7,_,_=>exact okLin7
  | 8,_,_=>exact okLin8
  | 9,_,_=>exact okLin9
  | 10,_,_=>exact okLin10
  | 11,_,_=>exact okLin11
  | 12,_,_=>exact okLin12
  | 13,_,_=>exact okLin13
  | 14,_,_=>exact okLin14
  | 15,_,_=>exact okLin15
  | 16,_,_=>exact okLin16
  | 17,_,_=>exact okLin17
  | 18,_,_=>exact okLin18
  | 19,_,_=>exact okLin19
  | 20,_,_=>exact okLin20
  | 21,_,_=>exact okLin21
  | 22,_,_=>exact okLin22
  | 23,_,_=>exact okLin23
  | 24,_,_=>exact okLin24
  | 25,_,_=>exact okLin25
  | 26,_,_=>exact okLin26
  | 27,_,_=>exact okLin27
  | 28,_,_=>exact okLin28
  | 29,_,_=>exact okLin29
  | 30,_,_=>exact okLin30
  | 31,_,_=>exact okLin31
  | 32,_,_=>exact okLin32
  | 33,_,_=>exact okLin33
  | 34,_,_=>exact okLin34
  | 35,_,_=>exact okLin35
  | 36,_,_=>exact okLin36
  | 37,_,_=>exact okLin37
  | 38,_,_=>exact okLin38
  | 39,_,_=>exact okLin39
  | 40,_,_=>exact okLin40
  | 41,_,_=>exact okLin41
  | 42,_,_=>exact okLin42
  | 43,_,_=>exact okLin43
  | 44,_,_=>exact okLin44
  | 45,_,_=>exact okLin45
  | 46,_,_=>exact okLin46
  | 47,_,_=>exact okLin47
  | 48,_,_=>exact okLin48
  | 49,_,_=>exact okLin49
  | 50,_,_=>exact okLin50
  | n+51,_,h=>exact absurd h (by omega)
end Go.Proofs.YtllaekopaglolaaGreat
end
