/-
  The cubically interpolated mapping of each accuracy: what it tells. (Printed by gen_mapok.py.)
-/
import Derived.Test.YtllaekopaglolaaGreatGBP
import Derived.Test.YtllaekopaglolaaGreatGBV
import Derived.Test.YtllaekopaglolaaGreatGBR
import Derived.Test.YtllaekopaglolaaGreatGBS
import Derived.Test.YtllaekopaglolaaGreatGBU
import Derived.Deep.SlicePairs
import Derived.ProofKit
import Derived.Below
import Derived.ChangeSame
import Derived.Test.YtllaekopaglolaaGreatRows
import Derived.OpenShut
section
namespace Go.Proofs.YtllaekopaglolaaGreat
open Go.RowKit
open Ieee
set_option maxRecDepth 100000
set_option exponentiation.threshold 5000
theorem mkCub {p a off mult rb part:Nat} {i0 i1:Int} (par:parLook ofCubQ accCubQ (idxCubQ off mult) a off mult rb i0 i1=true) (fact:∀ i,i0≤i→i≤i1+1→FactK (lowerCubQ off mult) (lookC (idxCubQ off mult)) rb p i) (h01:i0≤i1)
    (hm:smallB mult=true) (ho:smallZ off=true) (hp:partLook p a part=true) (p1:1≤p) (p2:p≤50) (b0:-5000≤i0) (b1:i1≤5000):MapOk ofCubF accCubF idxCubF lowerCubF valueCubF p :=
  mapOk_step ofCub_q accCub_q idxCub_q lowerCub_q (fun _ _ _ _=>rfl) (fun hm ho c1 c2 o1 o2 _ _ h1 h h2=>idxCub_step hm ho c1 c2 o1 o2 h1 h h2) (fun hm ho c1 c2 o1 o2 _ h1 h2=>⟨_,idxCub_val hm ho c1 c2 o1 o2 h1 h2 1022 rfl⟩) par fact h01 hm ho hp p1 p2 b0 b1
theorem okCub1:MapOk ofCubF accCubF idxCubF lowerCubF valueCubF 1:=mkCub (part:=4576918229310428744) parCub1 (fun i a b=>factCub1 i a (by omega)) (by decide) (by decide +kernel) (by decide +kernel) (by decide +kernel) (by decide) (by decide) (by decide) (by decide)
theorem okCub2:MapOk ofCubF accCubF idxCubF lowerCubF valueCubF 2:=mkCub (part:=4581421828937511009) parCub2 (fun i a b=>factCub2 i a (by omega)) (by decide) (by decide +kernel) (by decide +kernel) (by decide +kernel) (by decide) (by decide) (by decide) (by decide)
theorem okCub3:MapOk ofCubF accCubF idxCubF lowerCubF valueCubF 3:=mkCub (part:=4584304132701910430) parCub3 (fun i a b=>factCub3 i a (by omega)) (by decide) (by decide +kernel) (by decide +kernel) (by decide +kernel) (by decide) (by decide) (by decide) (by decide)
theorem okCub4:MapOk ofCubF accCubF idxCubF lowerCubF valueCubF 4:=mkCub (part:=4585925428564737390) parCub4 (fun i a b=>factCub4 i a (by omega)) (by decide) (by decide +kernel) (by decide +kernel) (by decide +kernel) (by decide) (by decide) (by decide) (by decide)
theorem okCub5:MapOk ofCubF accCubF idxCubF lowerCubF valueCubF 5:=mkCub (part:=4587366580446937101) parCub5 (fun i a b=>factCub5 i a (by omega)) (by decide) (by decide +kernel) (by decide +kernel) (by decide +kernel) (by decide) (by decide) (by decide) (by decide)
theorem okCub6:MapOk ofCubF accCubF idxCubF lowerCubF valueCubF 6:=mkCub (part:=4588807732329136811) parCub6 (fun i a b=>factCub6 i a (by omega)) (by decide) (by decide +kernel) (by decide +kernel) (by decide +kernel) (by decide) (by decide) (by decide) (by decide)
theorem okCub7:MapOk ofCubF accCubF idxCubF lowerCubF valueCubF 7:=mkCub (part:=4589708452250935974) parCub7 (fun i a b=>factCub7 i a (by omega)) (by decide) (by decide +kernel) (by decide +kernel) (by decide +kernel) (by decide) (by decide) (by decide) (by decide)
theorem okCub8:MapOk ofCubF accCubF idxCubF lowerCubF valueCubF 8:=mkCub (part:=4590429028192035829) parCub8 (fun i a b=>factCub8 i a (by omega)) (by decide) (by decide +kernel) (by decide +kernel) (by decide +kernel) (by decide) (by decide) (by decide) (by decide)
theorem okCub9:MapOk ofCubF accCubF idxCubF lowerCubF valueCubF 9:=mkCub (part:=4591149604133135684) parCub9 (fun i a b=>factCub9 i a (by omega)) (by decide) (by decide +kernel) (by decide +kernel) (by decide +kernel) (by decide) (by decide) (by decide) (by decide)
theorem okCub10:MapOk ofCubF accCubF idxCubF lowerCubF valueCubF 10:=mkCub (part:=4591870180074235540) parCub10 (fun i a b=>factCub10 i a (by omega)) (by decide) (by decide +kernel) (by decide +kernel) (by decide +kernel) (by decide) (by decide) (by decide) (by decide)
theorem okCub11:MapOk ofCubF accCubF idxCubF lowerCubF valueCubF 11:=mkCub (part:=4592590756015335395) parCub11 (fun i a b=>factCub11 i a (by omega)) (by decide) (by decide +kernel) (by decide +kernel) (by decide +kernel) (by decide) (by decide) (by decide) (by decide)
theorem okCub12:MapOk ofCubF accCubF idxCubF lowerCubF valueCubF 12:=mkCub (part:=4593311331956435250) parCub12 (fun i a b=>factCub12 i a (by omega)) (by decide) (by decide +kernel) (by decide +kernel) (by decide +kernel) (by decide) (by decide) (by decide) (by decide)
theorem okCub13:MapOk ofCubF accCubF idxCubF lowerCubF valueCubF 13:=mkCub (part:=4593851763907720513) parCub13 (fun i a b=>factCub13 i a (by omega)) (by decide) (by decide +kernel) (by decide +kernel) (by decide +kernel) (by decide) (by decide) (by decide) (by decide)
theorem okCub14:MapOk ofCubF accCubF idxCubF lowerCubF valueCubF 14:=mkCub (part:=4594212051878270441) parCub14 (fun i a b=>factCub14 i a (by omega)) (by decide) (by decide +kernel) (by decide +kernel) (by decide +kernel) (by decide) (by decide) (by decide) (by decide)
theorem okCub15:MapOk ofCubF accCubF idxCubF lowerCubF valueCubF 15:=mkCub (part:=4594572339848820368) parCub15 (fun i a b=>factCub15 i a (by omega)) (by decide) (by decide +kernel) (by decide +kernel) (by decide +kernel) (by decide) (by decide) (by decide) (by decide)
theorem okCub16:MapOk ofCubF accCubF idxCubF lowerCubF valueCubF 16:=mkCub (part:=4594932627819370296) parCub16 (fun i a b=>factCub16 i a (by omega)) (by decide) (by decide +kernel) (by decide +kernel) (by decide +kernel) (by decide) (by decide) (by decide) (by decide)
theorem okCub17:MapOk ofCubF accCubF idxCubF lowerCubF valueCubF 17:=mkCub (part:=4595292915789920224) parCub17 (fun i a b=>factCub17 i a (by omega)) (by decide) (by decide +kernel) (by decide +kernel) (by decide +kernel) (by decide) (by decide) (by decide) (by decide)
theorem okCub18:MapOk ofCubF accCubF idxCubF lowerCubF valueCubF 18:=mkCub (part:=4595653203760470151) parCub18 (fun i a b=>factCub18 i a (by omega)) (by decide) (by decide +kernel) (by decide +kernel) (by decide +kernel) (by decide) (by decide) (by decide) (by decide)
theorem okCub19:MapOk ofCubF accCubF idxCubF lowerCubF valueCubF 19:=mkCub (part:=4596013491731020079) parCub19 (fun i a b=>factCub19 i a (by omega)) (by decide) (by decide +kernel) (by decide +kernel) (by decide +kernel) (by decide) (by decide) (by decide) (by decide)
theorem okCub20:MapOk ofCubF accCubF idxCubF lowerCubF valueCubF 20:=mkCub (part:=4596373779701570007) parCub20 (fun i a b=>factCub20 i a (by omega)) (by decide) (by decide +kernel) (by decide +kernel) (by decide +kernel) (by decide) (by decide) (by decide) (by decide)
theorem okCub21:MapOk ofCubF accCubF idxCubF lowerCubF valueCubF 21:=mkCub (part:=4596734067672119934) parCub21 (fun i a b=>factCub21 i a (by omega)) (by decide) (by decide +kernel) (by decide +kernel) (by decide +kernel) (by decide) (by decide) (by decide) (by decide)
theorem okCub22:MapOk ofCubF accCubF idxCubF lowerCubF valueCubF 22:=mkCub (part:=4597094355642669862) parCub22 (fun i a b=>factCub22 i a (by omega)) (by decide) (by decide +kernel) (by decide +kernel) (by decide +kernel) (by decide) (by decide) (by decide) (by decide)
theorem okCub23:MapOk ofCubF accCubF idxCubF lowerCubF valueCubF 23:=mkCub (part:=4597454643613219790) parCub23 (fun i a b=>factCub23 i a (by omega)) (by decide) (by decide +kernel) (by decide +kernel) (by decide +kernel) (by decide) (by decide) (by decide) (by decide)
theorem okCub24:MapOk ofCubF accCubF idxCubF lowerCubF valueCubF 24:=mkCub (part:=4597814931583769717) parCub24 (fun i a b=>factCub24 i a (by omega)) (by decide) (by decide +kernel) (by decide +kernel) (by decide +kernel) (by decide) (by decide) (by decide) (by decide)
theorem okCub25:MapOk ofCubF accCubF idxCubF lowerCubF valueCubF 25:=mkCub (part:=4598175219549798030) parCub25 (fun i a b=>factCub25 i a (by omega)) (by decide) (by decide +kernel) (by decide +kernel) (by decide +kernel) (by decide) (by decide) (by decide) (by decide)
theorem okCub26:MapOk ofCubF accCubF idxCubF lowerCubF valueCubF 26:=mkCub (part:=4598355363535072994) parCub26 (fun i a b=>factCub26 i a (by omega)) (by decide) (by decide +kernel) (by decide +kernel) (by decide +kernel) (by decide) (by decide) (by decide) (by decide)
theorem okCub27:MapOk ofCubF accCubF idxCubF lowerCubF valueCubF 27:=mkCub (part:=4598535507520347958) parCub27 (fun i a b=>factCub27 i a (by omega)) (by decide) (by decide +kernel) (by decide +kernel) (by decide +kernel) (by decide) (by decide) (by decide) (by decide)
theorem okCub28:MapOk ofCubF accCubF idxCubF lowerCubF valueCubF 28:=mkCub (part:=4598715651505622922) parCub28 (fun i a b=>factCub28 i a (by omega)) (by decide) (by decide +kernel) (by decide +kernel) (by decide +kernel) (by decide) (by decide) (by decide) (by decide)
theorem okCub29:MapOk ofCubF accCubF idxCubF lowerCubF valueCubF 29:=mkCub (part:=4598895795490897885) parCub29 (fun i a b=>factCub29 i a (by omega)) (by decide) (by decide +kernel) (by decide +kernel) (by decide +kernel) (by decide) (by decide) (by decide) (by decide)
theorem okCub30:MapOk ofCubF accCubF idxCubF lowerCubF valueCubF 30:=mkCub (part:=4599075939476172849) parCub30 (fun i a b=>factCub30 i a (by omega)) (by decide) (by decide +kernel) (by decide +kernel) (by decide +kernel) (by decide) (by decide) (by decide) (by decide)
theorem okCub31:MapOk ofCubF accCubF idxCubF lowerCubF valueCubF 31:=mkCub (part:=4599256083461447813) parCub31 (fun i a b=>factCub31 i a (by omega)) (by decide) (by decide +kernel) (by decide +kernel) (by decide +kernel) (by decide) (by decide) (by decide) (by decide)
theorem okCub32:MapOk ofCubF accCubF idxCubF lowerCubF valueCubF 32:=mkCub (part:=4599436227446722777) parCub32 (fun i a b=>factCub32 i a (by omega)) (by decide) (by decide +kernel) (by decide +kernel) (by decide +kernel) (by decide) (by decide) (by decide) (by decide)
theorem okCub33:MapOk ofCubF accCubF idxCubF lowerCubF valueCubF 33:=mkCub (part:=4599616371431997741) parCub33 (fun i a b=>factCub33 i a (by omega)) (by decide) (by decide +kernel) (by decide +kernel) (by decide +kernel) (by decide) (by decide) (by decide) (by decide)
theorem okCub34:MapOk ofCubF accCubF idxCubF lowerCubF valueCubF 34:=mkCub (part:=4599796515417272705) parCub34 (fun i a b=>factCub34 i a (by omega)) (by decide) (by decide +kernel) (by decide +kernel) (by decide +kernel) (by decide) (by decide) (by decide) (by decide)
theorem okCub35:MapOk ofCubF accCubF idxCubF lowerCubF valueCubF 35:=mkCub (part:=4599976659402547668) parCub35 (fun i a b=>factCub35 i a (by omega)) (by decide) (by decide +kernel) (by decide +kernel) (by decide +kernel) (by decide) (by decide) (by decide) (by decide)
theorem okCub36:MapOk ofCubF accCubF idxCubF lowerCubF valueCubF 36:=mkCub (part:=4600156803387822632) parCub36 (fun i a b=>factCub36 i a (by omega)) (by decide) (by decide +kernel) (by decide +kernel) (by decide +kernel) (by decide) (by decide) (by decide) (by decide)
theorem okCub37:MapOk ofCubF accCubF idxCubF lowerCubF valueCubF 37:=mkCub (part:=4600336947373097596) parCub37 (fun i a b=>factCub37 i a (by omega)) (by decide) (by decide +kernel) (by decide +kernel) (by decide +kernel) (by decide) (by decide) (by decide) (by decide)
theorem okCub38:MapOk ofCubF accCubF idxCubF lowerCubF valueCubF 38:=mkCub (part:=4600517091358372560) parCub38 (fun i a b=>factCub38 i a (by omega)) (by decide) (by decide +kernel) (by decide +kernel) (by decide +kernel) (by decide) (by decide) (by decide) (by decide)
theorem okCub39:MapOk ofCubF accCubF idxCubF lowerCubF valueCubF 39:=mkCub (part:=4600697235343647524) parCub39 (fun i a b=>factCub39 i a (by omega)) (by decide) (by decide +kernel) (by decide +kernel) (by decide +kernel) (by decide) (by decide) (by decide) (by decide)
theorem okCub40:MapOk ofCubF accCubF idxCubF lowerCubF valueCubF 40:=mkCub (part:=4600877379328922488) parCub40 (fun i a b=>factCub40 i a (by omega)) (by decide) (by decide +kernel) (by decide +kernel) (by decide +kernel) (by decide) (by decide) (by decide) (by decide)
theorem okCub41:MapOk ofCubF accCubF idxCubF lowerCubF valueCubF 41:=mkCub (part:=4601057523314197451) parCub41 (fun i a b=>factCub41 i a (by omega)) (by decide) (by decide +kernel) (by decide +kernel) (by decide +kernel) (by decide) (by decide) (by decide) (by decide)
theorem okCub42:MapOk ofCubF accCubF idxCubF lowerCubF valueCubF 42:=mkCub (part:=4601237667299472415) parCub42 (fun i a b=>factCub42 i a (by omega)) (by decide) (by decide +kernel) (by decide +kernel) (by decide +kernel) (by decide) (by decide) (by decide) (by decide)
theorem okCub43:MapOk ofCubF accCubF idxCubF lowerCubF valueCubF 43:=mkCub (part:=4601417811284747379) parCub43 (fun i a b=>factCub43 i a (by omega)) (by decide) (by decide +kernel) (by decide +kernel) (by decide +kernel) (by decide) (by decide) (by decide) (by decide)
theorem okCub44:MapOk ofCubF accCubF idxCubF lowerCubF valueCubF 44:=mkCub (part:=4601597955270022343) parCub44 (fun i a b=>factCub44 i a (by omega)) (by decide) (by decide +kernel) (by decide +kernel) (by decide +kernel) (by decide) (by decide) (by decide) (by decide)
theorem okCub45:MapOk ofCubF accCubF idxCubF lowerCubF valueCubF 45:=mkCub (part:=4601778099255297307) parCub45 (fun i a b=>factCub45 i a (by omega)) (by decide) (by decide +kernel) (by decide +kernel) (by decide +kernel) (by decide) (by decide) (by decide) (by decide)
theorem okCub46:MapOk ofCubF accCubF idxCubF lowerCubF valueCubF 46:=mkCub (part:=4601958243240572271) parCub46 (fun i a b=>factCub46 i a (by omega)) (by decide) (by decide +kernel) (by decide +kernel) (by decide +kernel) (by decide) (by decide) (by decide) (by decide)
theorem okCub47:MapOk ofCubF accCubF idxCubF lowerCubF valueCubF 47:=mkCub (part:=4602138387225847234) parCub47 (fun i a b=>factCub47 i a (by omega)) (by decide) (by decide +kernel) (by decide +kernel) (by decide +kernel) (by decide) (by decide) (by decide) (by decide)
theorem okCub48:MapOk ofCubF accCubF idxCubF lowerCubF valueCubF 48:=mkCub (part:=4602318531211122198) parCub48 (fun i a b=>factCub48 i a (by omega)) (by decide) (by decide +kernel) (by decide +kernel) (by decide +kernel) (by decide) (by decide) (by decide) (by decide)
theorem okCub49:MapOk ofCubF accCubF idxCubF lowerCubF valueCubF 49:=mkCub (part:=4602498675196397162) parCub49 (fun i a b=>factCub49 i a (by omega)) (by decide) (by decide +kernel) (by decide +kernel) (by decide +kernel) (by decide) (by decide) (by decide) (by decide)
theorem okCub50:MapOk ofCubF accCubF idxCubF lowerCubF valueCubF 50:=mkCub (part:=4602678819177159519) parCub50 (fun i a b=>factCub50 i a (by omega)) (by decide) (by decide +kernel) (by decide +kernel) (by decide +kernel) (by decide) (by decide) (by decide) (by decide)
theorem okCub (p:Nat) (h1:1≤p) (h2:p≤50):MapOk ofCubF accCubF idxCubF lowerCubF valueCubF p:=by
  match p,h1,h2 with
  | 0,h,_=>exact absurd h (by decide)
  | 1,_,_=>exact okCub1
  | 2,_,_=>exact okCub2
  | 3,_,_=>exact okCub3
  | 4,_,_=>exact okCub4
  | 5,_,_=>exact okCub5
  | 6,_,_=>exact okCub6
  | 7,_,_=>exact okCub7
  | 8,_,_=>exact okCub8
  | 9,_,_=>exact okCub9
  | 10,_,_=>exact okCub10
  | 11,_,_=>exact okCub11
  | 12,_,_=>exact okCub12
  | 13,_,_=>exact okCub13
  | 14,_,_=>exact okCub14
  | 15,_,_=>exact okCub15
  | 16,_,_=>exact okCub16
  | 17,_,_=>exact okCub17
  | 18,_,_=>exact okCub18
  | 19,_,_=>exact okCub19
  | 20,_,_=>exact okCub20
  | 21,_,_=>exact okCub21
  | 22,_,_=>exact okCub22
  | 23,_,_=>exact okCub23
  | 24,_,_=>exact okCub24
  | 25,_,_=>exact okCub25
  | 26,_,_=>exact okCub26
  | 27,_,_=>exact okCub27
  | 28,_,_=>exact okCub28
  | 29,_,_=>exact okCub29
  | 30,_,_=>exact okCub30
  | 31,_,_=>exact okCub31
  | 32,_,_=>exact okCub32
  | 33,_,_=>exact okCub33
  | 34,_,_=>exact okCub34
  | 35,_,_=>exact okCub35
  | 36,_,_=>exact okCub36
  | 37,_,_=>exact okCub37
  | 38,_,_=>exact okCub38
  | 39,_,_=>exact okCub39
  | 40,_,_=>exact okCub40
  | 41,_,_=>exact okCub41
  | 42,_,_=>exact okCub42
  | 43,_,_=>exact okCub43
  | 44,_,_=>exact okCub44
  | 45,_,_=>exact okCub45
  | 46,_,_=>exact okCub46
  | 47,_,_=>exact okCub47
  | 48,_,_=>exact okCub48
  | 49,_,_=>exact okCub49
  | 50,_,_=>exact okCub50
  | n+51,_,h=>exact absurd h (by omega)
end Go.Proofs.YtllaekopaglolaaGreat
end
/-
  laws.FnQuantiles at every kind; slices of items and of floats that come in.
-/
section
namespace Go.Proofs.YtllaekopaglolaaGreat
open Go.RowKit Go.ChangeShapes Go.WideShapes
set_option exponentiation.threshold 5000
theorem list_choose {P:Nat→Nat→Prop}:∀ (qs:List Nat),(∀ q∈qs,∃ o,P q o)→∃ outs:List Nat,outs.length=qs.length∧∀ i,(h:i<qs.length)→P qs[i] (outs.getD i 0)
  | [],_=>⟨[],rfl,fun i h=>absurd h (Nat.not_lt_zero _)⟩
  | q :: t,h=>by
    obtain ⟨o,ho⟩:=h q List.mem_cons_self
    obtain ⟨outs,hl,hr⟩:=list_choose t (fun q hq=>h q (List.mem_cons_of_mem _ hq))
    refine ⟨o :: outs,by simp [hl],fun i hi=>?_⟩
    cases i with
    | zero=>exact ho
    | succ i=>simpa using hr i (by simpa using hi)
theorem good_of {mk st:Int} {K:StoreKind st} {of_:Nat→Option (Nat × Nat × Nat × Nat × Nat)} {acc:Nat→Option Nat} {idx:Nat→Nat→Nat→Option Int} {lower:Nat→Nat→Int→Option Nat} {value:Nat→Nat→Nat→Int→Option Nat}
   (Q:SkKind K) (M:MapKind mk of_ acc idx lower value) (p:Nat) (p1:1≤p) (p2:p≤50) (ok:MapOk of_ acc idx lower value p) (hk:knownB st 100=true) {xs:Items} {qs:List Nat} (hx:∀ q∈xs,ItemOk q) (h0:0<xs.length) (hn1:xs.length≤120) (hql:qs.length≤20) (hqo:∀ q∈qs,okQ q=true∧q<18446744073709551616) :
    GoodQ mk p st xs qs:=by
  have hn:xs.length≤400:=by omega
  obtain ⟨a,g,off,mult,mn,mx,part,x,o1,o2,hb,o3,o4,o5,hi,hm,ht⟩:=mono_of ok
  obtain ⟨fp,hP,hP2⟩:=partOk_is o5
  obtain ⟨outs,hol,hA⟩:=list_choose qs fun q hq=>ask_near hm hi ht fp hP hP2 p1 p2 hx h0 hn (hqo q hq).2 (hqo q hq).1
  have hB0:0≤qv (absI xs):=by have:=qv_le (absI_nonneg xs); rwa [qv_zero] at this
  obtain ⟨a1,a2,a3,a4⟩:=posBins_ok hi hx
  obtain ⟨b1,b2,b3,b4⟩:=negBins_ok hi hx
  have hNle:=totC_le hx
  obtain ⟨t1,t2⟩:=tot_parts hi hx
  have hz:=zeros_le xs
  have hN0:0<totC xs:=by
    cases xs with
    | nil=>exact absurd h0 (Nat.lt_irrefl 0)
    | cons q t =>
      have:=(hx q List.mem_cons_self).c1
      show 0<q.2+totC t; omega
  refine ⟨a,outs,o1,fun W al aq cl cq hl hq=>?_,fun c s k l lo hi' y hst hy ax aq cx cq gv W hl hq hv=>?_⟩
  · exact quant_any Q M 100 a g off mult mn mx cq cl (qv (absI xs)) aq al xs qs outs W hk o2 hb hi hl hx hn hB0 (absI_q hx hn) Rat.le_refl hq (Nat.le_trans hql (by decide)) hol ⟨hk,a1,a2,by clear fp hP hP2 o5; omega,by clear fp hP hP2 o5; omega⟩ ⟨hk,b1,b2,by clear fp hP hP2 o5; omega,by clear fp hP hP2 o5; omega⟩ (by clear fp hP hP2 o5; omega) (by clear fp hP hP2 o5; omega) (fun k hk=>(hA k hk).1)
  · exact right_all o3 o4 o5 p1 hx h0 hn1 (by clear fp hP hP2 o5; grind) hst hy qs outs hol (Nat.le_trans hql (by decide)) (fun i h=>(hA i h).2) ax aq cx cq gv W hl hq hv
theorem fnQuantiles_any (mk pc st:Int) (al aq:Option Addr) (cl cq:Nat) (ps:List (Nat × Nat)) (qs:List Nat) (w:World) (hl:LieR w al ps) (hq:LieN w aq qs) (hb:∀ p∈ps,p.1<18446744073709551616∧p.2<18446744073709551616) (hqb:∀ q∈qs,q<18446744073709551616) :
    Calls Tryz.prog 3 #[.int .i64 mk,.int .i64 pc,.int .i64 st,.slice al ps.length cl,.slice aq qs.length cq] w fun e w'=>IsTrue w e w':=by
  refine fnQ_any mk pc st al aq cl cq ps qs w hl hq hb fun xs _ hx h0 hn hf=>?_
  obtain ⟨⟨k1,k2⟩,⟨c1,c2⟩,⟨s1,s2⟩,l1,ho⟩:=hf
  have hqo:∀ q∈qs,okQ q=true∧q<18446744073709551616:=fun q hq=>⟨List.all_eq_true.1 ho q hq,hqb q hq⟩
  obtain ⟨p,rfl⟩:∃ p:Nat,pc=(p:Int):=⟨pc.toNat,by omega⟩
  have p1:1≤p:=by omega
  have p2:p≤50:=by omega
  have hn4:xs.length≤120:=by omega
  have hmk:mk=0∨mk=1∨mk=2:=by omega
  have hst:st=0∨st=1∨st=2:=by omega
  rcases hmk with rfl | rfl | rfl
  · rcases hst with rfl | rfl | rfl
    · exact good_of skD kindLogM p p1 p2 (okLog p p1 p2) (by decide) hx h0 hn4 l1 hqo
    · exact good_of skS kindLogM p p1 p2 (okLog p p1 p2) (by decide) hx h0 hn4 l1 hqo
    · exact good_of skP kindLogM p p1 p2 (okLog p p1 p2) (by decide) hx h0 hn4 l1 hqo
  · rcases hst with rfl | rfl | rfl
    · exact good_of skD kindLinM p p1 p2 (okLin p p1 p2) (by decide) hx h0 hn4 l1 hqo
    · exact good_of skS kindLinM p p1 p2 (okLin p p1 p2) (by decide) hx h0 hn4 l1 hqo
    · exact good_of skP kindLinM p p1 p2 (okLin p p1 p2) (by decide) hx h0 hn4 l1 hqo
  · rcases hst with rfl | rfl | rfl
    · exact good_of skD kindCubM p p1 p2 (okCub p p1 p2) (by decide) hx h0 hn4 l1 hqo
    · exact good_of skS kindCubM p p1 p2 (okCub p p1 p2) (by decide) hx h0 hn4 l1 hqo
    · exact good_of skP kindCubM p p1 p2 (okCub p p1 p2) (by decide) hx h0 hn4 l1 hqo
section
variable {H:Type} {enc:TypeId × Value→H} {P:Program} {w:World} {base:Nat} {spare:Nat→Bool} {held:Bool}
theorem trod_float {k:FloatKind} {t:TypeId} {fuel:Nat} {cs:List Value} {x:DataW H × List MemPlace} (ht:P.underlying t=some (.float k)) (h:DataW.trod enc P w base spare held fuel t cs=some x):∃ b,cs=[.float k b]∧(Lit.float k b).wf=true:=by
  cases fuel with
  | zero=>simp [DataW.trod] at h
  | succ n =>
    simp only [DataW.trod,ht] at h
    split at h <;> simp_all
theorem get_plain {g:Addr} {v:Value} (h:w.cell? (g.add 0)=some v):∃ b off,g=⟨b,off,none⟩:=by
  obtain ⟨b,off,spot⟩:=g
  have:spot=none:=by
    have h2:=World.cell?_spot h
    unfold Addr.add at h2
    split at h2 <;> simp_all
  exact ⟨b,off,by rw [this]⟩
theorem open_items {t e:TypeId} {f0 f1:Field} {ao:Option Addr} {len cap:Nat} {d:DataW H} {p:List MemPlace} (ht:P.underlying t=some (.slice e)) (he:P.underlying e=some (.struct #[f0,f1]))
    (ce:P.cellsOf e=2) (o0:f0.offset=0) (o1:f1.offset=1) (c0:P.cellsOf f0.type=1) (c1:P.cellsOf f1.type=1) (k0:P.underlying f0.type=some (.float .f64)) (k1:P.underlying f1.type=some (.float .f64))
    (h:DataW.Trod enc P w base (fun _=>true) held t (.slice ao len cap) d p) :
    ∃ ps:List (Nat × Nat),ps.length=len∧LieR w ao ps∧∀ q∈ps,q.1<18446744073709551616∧q.2<18446744073709551616:=by
  obtain ⟨n,hn⟩:=h
  rcases Deep.open_slice_pairs ht he ce o0 o1 c0 c1 hn with ⟨hcs,hx⟩ | ⟨a,len',cap',m,n',V0,V1,D0,D1,P0,P1,hcs,_,hl,_,hm,_,hc⟩
  · simp [Value.cells] at hcs
    exact ⟨[],by simp [hcs],.inl rfl,fun q hq=>by cases hq⟩
  · simp [Value.cells] at hcs
    obtain ⟨rfl,rfl,rfl⟩:=hcs
    simp at hm
    subst hm
    have key:∀ i,i<len→∃ q:Nat × Nat,V0 i = .float .f64 q.1∧V1 i = .float .f64 q.2∧q.1<18446744073709551616∧q.2<18446744073709551616:=by
      intro i hi
      obtain ⟨_,_,h3,h4⟩:=hc i (by omega)
      obtain ⟨z,hz,hw0⟩:=trod_float k0 h3
      obtain ⟨b,hb,hw⟩:=trod_float k1 h4
      simp at hz hb
      exact ⟨(z,b),hz,hb,by simpa [Lit.wf] using hw0,by simpa [Lit.wf] using hw⟩
    obtain ⟨q,hq⟩:=Deep.choose_lt key
    refine ⟨(List.range len).map q,by simp,?_,?_⟩
    · by_cases h0:len=0
      · exact .inl (by simp [h0])
      · right
        obtain ⟨b,off,rfl⟩:=get_plain (hc 0 (by omega)).1
        refine ⟨b,off,rfl,fun i hi=>?_⟩
        have hi':i<len:=by simpa using hi
        obtain ⟨h1,h2,_,_⟩:=hc i (by omega)
        rw [add_plain] at h1 h2
        rw [(hq i hi').1] at h1
        rw [(hq i hi').2.1] at h2
        simp only [List.getElem_map,List.getElem_range]
        exact ⟨h1,by rw [← h2]; rfl⟩
    · intro x hx
      obtain ⟨i,hi,rfl⟩:=List.mem_map.1 hx
      exact (hq i (List.mem_range.1 hi)).2.2
theorem open_qs {t e:TypeId} {ao:Option Addr} {len cap:Nat} {d:DataW H} {p:List MemPlace} (ht:P.underlying t=some (.slice e)) (he:P.underlying e=some (.float .f64))
    (ce:P.cellsOf e=1) (h:DataW.Trod enc P w base (fun _=>true) held t (.slice ao len cap) d p) :
    ∃ rs:List Nat,rs.length=len∧LieN w ao rs∧∀ q∈rs,q<18446744073709551616:=by
  obtain ⟨n,hn⟩:=h
  rcases Deep.open_slice1 ht ce hn with ⟨hcs,hx⟩ | ⟨a,len',cap',m,n',V,D,Pl,hcs,_,hl,_,hm,_,hc⟩
  · simp [Value.cells] at hcs
    exact ⟨[],by simp [hcs],.inl rfl,fun q hq=>by cases hq⟩
  · simp [Value.cells] at hcs
    obtain ⟨rfl,rfl,rfl⟩:=hcs
    simp at hm
    subst hm
    have key:∀ i,i<len→∃ q:Nat,V i = .float .f64 q∧q<18446744073709551616:=by
      intro i hi
      obtain ⟨_,h4⟩:=hc i (by omega)
      obtain ⟨b,hb,hw⟩:=trod_float he h4
      simp at hb
      exact ⟨b,hb,by simpa [Lit.wf] using hw⟩
    obtain ⟨q,hq⟩:=Deep.choose_lt key
    refine ⟨(List.range len).map q,by simp,?_,?_⟩
    · by_cases h0:len=0
      · exact .inl (by simp [h0])
      · right
        obtain ⟨b,off,rfl⟩:=get_plain (hc 0 (by omega)).1
        refine ⟨b,off,rfl,fun i hi=>?_⟩
        have hi':i<len:=by simpa using hi
        obtain ⟨h1,_⟩:=hc i (by omega)
        rw [add_plain,(hq i hi').1] at h1
        simp only [List.getElem_map,List.getElem_range]
        exact h1
    · intro x hx
      obtain ⟨i,hi,rfl⟩:=List.mem_map.1 hx
      exact (hq i (List.mem_range.1 hi)).2
end
end Go.Proofs.YtllaekopaglolaaGreat
end
/-
  The row's last step where of the world behind the call 'Below' alone is known.
-/
section
namespace Go.Proofs.YtllaekopaglolaaGreat
open Go.RowKit Go.WideShapes Go.ChangeShapes
section
variable {H:Type} {enc:TypeId × Value→H} {P:Program}
theorem post_of_below {f:Func} {s:ChangeSpec} {apart fresh handsOn again:Bool} {W W':World} {args:Array Value} {v:Value} {ds gs:List (DataW H)} {before pa pv:List MemPlace}
    (hW:DataW.Whole enc P f.params.toList s.vars apart W args.toList ds gs before)
    (hres:∀ (b:Nat) (sp:Nat→Bool) (hd:Bool),DataW.TrodAll enc P W' b sp hd f.resultTypes.toList (v.resultList f.resultTypes.size) (s.fn H (ds++gs)).results [])
    (hargs:∀ sp:Nat→Bool,(∀ p∈before,sp p.block=true)→DataW.TrodAll enc P W' 0 sp true f.params.toList args.toList (s.fn H (ds++gs)).args pa)
    (hvars:∀ sp:Nat→Bool,(∀ p∈before,sp p.block=true)→DataW.TrodVars enc P W' sp s.vars (s.fn H (ds++gs)).vars pv)
    (hps:before=pa++pv) (hb:Below W.heap.size W W')
    (hok:∀ (j:Nat) (t:TypeId) (r:Value),f.resultTypes[j]?=some t→(v.resultList f.resultTypes.size)[j]?=some r→Value.okWide P W' .any 0 t r) :
    s.post enc P f apart fresh handsOn again W args v W':=by
  have hlt:∀ p∈before,p.block<W.heap.size:=fun p hp=>hW.lt p hp
  have hold:∀ p∈before,(fun b=>decide (b<W.heap.size)) p.block=true:=fun p hp=>by simpa using hlt p hp
  refine ⟨ds,gs,before,[],pa,pv,hW,hres _ _ _,hargs _ hold,hvars _ hold,World.keptBut_mono (fun p hp=>⟨hp,?_⟩) (hb.frame (· ∈ before)),fun _=>?_⟩
  · rw [hps,List.mem_append] at hp
    exact Or.inr hp
  · obtain ⟨_,_,_,_,_,hz,hn⟩:=hW
    refine ⟨hok,_,_,([]++pa)++pv,⟨[]++pa,pv,trodAll_append (hargs _ (fun _ _=>rfl)) (hres _ _ _),hvars _ (fun _ _=>rfl),rfl,?_,?_⟩,?_⟩
    · intro b off hp
      have hin:MemPlace.cell b off∈before:=by rw [hps]; simpa using hp
      rw [hb.frozen (hlt _ hin)]
      exact hz b off hin
    · intro ha
      have:=hn ha
      rw [hps] at this
      simpa using this
    · intro p hp _
      rw [hps]
      simpa using hp
end
end Go.Proofs.YtllaekopaglolaaGreat
end
/-
  FnQuantiles,whatever the mapping,the accuracy,the store,the items and the quantiles: the call returns true,and the arguments read as they did. No condition.
-/
section
namespace Go.Proofs.YtllaekopaglolaaGreat
open Go.ChangeShapes Go.WideShapes Go.ChangeAt Go.RowKit
theorem Tryz.own:ownKnob Tryz.prog.godebug=none:=by kernel_rfl
theorem Tryz.laidOut:laidOutB Tryz.prog=true:=by kernel_rfl
section
variable {P:Program} {H:Type} {enc:TypeId × Value→H} {w:World} {base:Nat} {spare:Nat→Bool} {held:Bool}
theorem trodAll_five {t0 t1 t2 t3 t4:TypeId} {args:Array Value} {ds:List (DataW H)} {ps:List MemPlace} (h:DataW.TrodAll enc P w base spare held [t0,t1,t2,t3,t4] args.toList ds ps) :
    ∃ v0 v1 v2 v3 v4 d0 d1 d2 d3 d4 p0 p1 p2 p3 p4,args = #[v0,v1,v2,v3,v4]∧ds=[d0,d1,d2,d3,d4]∧ps=p0++p1++p2++p3++p4∧DataW.Trod enc P w base spare held t0 v0 d0 p0∧DataW.Trod enc P w base spare held t1 v1 d1 p1∧DataW.Trod enc P w base spare held t2 v2 d2 p2∧DataW.Trod enc P w base spare held t3 v3 d3 p3∧DataW.Trod enc P w base spare held t4 v4 d4 p4:=by
  obtain ⟨v0,vs0,d0,ds0,p0,q0,hargs,rfl,rfl,h0,r0⟩:=trodAll_cons h
  obtain ⟨v1,vs1,d1,ds1,p1,q1,rfl,rfl,rfl,h1,r1⟩:=trodAll_cons r0
  obtain ⟨v2,vs2,d2,ds2,p2,q2,rfl,rfl,rfl,h2,r2⟩:=trodAll_cons r1
  obtain ⟨v3,vs3,d3,ds3,p3,q3,rfl,rfl,rfl,h3,r3⟩:=trodAll_cons r2
  obtain ⟨v4,vs4,d4,ds4,p4,q4,rfl,rfl,rfl,h4,r4⟩:=trodAll_cons r3
  obtain ⟨rfl,rfl,rfl⟩:=trodAll_nil r4
  exact ⟨v0,v1,v2,v3,v4,d0,d1,d2,d3,d4,p0,p1,p2,p3,p4,by cases args; simp_all,rfl,by simp,h0,h1,h2,h3,h4⟩
end
set_option maxRecDepth 100000 in
theorem fnQuantiles_lifted (os:Os) (started:os.Started) (H:Type) (enc:TypeId × Value→H) :
    ReturnsInHanded {} Tryz.checked os 3 .any (Rows.fnQuantilesSpec.pre6 enc Tryz.prog Tryz.f3 Rows.fnQuantilesRow.domain false) (Rows.fnQuantilesSpec.post enc Tryz.prog Tryz.f3 false true false false):=by
  refine returnsInHanded_of_change (C:=Tryz.checked) Tryz.own started (by kernel_rfl) Tryz.func3
    (ChangeSpec.witness6 (enc:=enc) (C:=Tryz.checked) false ⟨#[],#[.int .i64 0,.int .i64 0,.int .i64 0,.slice none 0 0,.slice none 0 0],[]⟩ 8 (by kernel_rfl) (by kernel_rfl) (by kernel_rfl) (by kernel_rfl)) ?_
  intro W base args ds gs before hval0 hW hcnd _
  have hval:∀ (j:Nat) t v,Tryz.f3.params[j]?=some t→args[j]?=some v→Value.okWide Tryz.prog W .any base t v:=hval0
  have hW':=hW
  obtain ⟨p,q,hA0,hV,rfl,hfz,hnd⟩:=hW
  have hA:DataW.TrodAll enc Tryz.prog W 0 (fun _=>true) true Tryz.f3.params.toList args.toList ds p:=hA0
  rw [Tryz.params3] at hA hval
  obtain ⟨v0,v1,v2,v3,v4,d0,d1,d2,d3,d4,p0,p1,p2,p3,p4,rfl,rfl,rfl,h0,h1,h2,h3,h4⟩:=trodAll_five hA
  obtain ⟨rfl,rfl⟩:=trodVars_none hV
  obtain ⟨a,rfl,rfl,rfl,wa⟩:=open_int Tryz.underlying3 (hval 0 3 v0 rfl rfl) h0
  obtain ⟨b,rfl,rfl,rfl,wb⟩:=open_int Tryz.underlying3 (hval 1 3 v1 rfl rfl) h1
  obtain ⟨c,rfl,rfl,rfl,wc⟩:=open_int Tryz.underlying3 (hval 2 3 v2 rfl rfl) h2
  obtain ⟨ao,len,cap,rfl⟩:=okWide_slice Tryz.underlying22 (hval 3 22 v3 rfl rfl)
  obtain ⟨ap,len2,cap2,rfl⟩:=okWide_slice Tryz.underlying23 (hval 4 23 v4 rfl rfl)
  obtain ⟨ps,rfl,hl,hbits⟩:=open_items Tryz.underlying22 Tryz.underlying37 (by kernel_rfl) rfl rfl (by kernel_rfl) (by kernel_rfl) Tryz.underlying29 Tryz.underlying29 h3
  obtain ⟨qs,rfl,hl2,hbits2⟩:=open_qs Tryz.underlying23 Tryz.underlying29 (by kernel_rfl) h4
  have hlt:∀ x∈p3++p4,x.block<W.heap.size:=fun x hx=>by
    refine hW'.lt x ?_
    simpa using hx
  clear hA0 hval0
  simp only [List.append_nil,List.nil_append] at hW'
  refine (fnQuantiles_any a b c ao ap cap cap2 ps qs W hl hl2 hbits hbits2).mono fun e W' ⟨he,hg⟩=>?_
  subst he
  have hargs:∀ sp:Nat→Bool,(∀ p∈p3++p4,sp p.block=true)→DataW.TrodAll enc Tryz.prog W' 0 sp true [3,3,3,22,23] [.int .i64 a,.int .i64 b,.int .i64 c,.slice ao ps.length cap,.slice ap qs.length cap2] [.lit (.int .i64 a),.lit (.int .i64 b),.lit (.int .i64 c),d3,d4] (p3++p4):=by
    intro sp hsp
    have e3:=WideElems.Trod_stays Tryz.laidOut (by kernel_rfl) (of_decide_eq_true (by kernel_rfl)) h3 (fun x hx=>hg.same (hlt x (List.mem_append_left _ hx))) (fun x hx=>hsp x (List.mem_append_left _ hx))
    have e4:=WideElems.Trod_stays Tryz.laidOut (by kernel_rfl) (of_decide_eq_true (by kernel_rfl)) h4 (fun x hx=>hg.same (hlt x (List.mem_append_right _ hx))) (fun x hx=>hsp x (List.mem_append_right _ hx))
    have h6:DataW.TrodAll enc Tryz.prog W' 0 sp true [3,3,3,22,23] [.int .i64 a,.int .i64 b,.int .i64 c,.slice ao ps.length cap,.slice ap qs.length cap2] [.lit (.int .i64 a),.lit (.int .i64 b),.lit (.int .i64 c),d3,d4] ([]++([]++([]++(p3++p4)))) :=
      ⟨_,_,shut_int Tryz.underlying3 wa,trodAll_mk4 (shut_int Tryz.underlying3 wb) (shut_int Tryz.underlying3 wc) e3 e4,rfl⟩
    simpa using h6
  exact ⟨_,rfl,post_of_below (pa:=p3++p4) (pv:=[]) hW' (fun _ _ _=>trodAll_mk1 (shut_bool Tryz.underlying4 _)) (fun sp hsp=>hargs sp hsp) (fun _ _=>rfl) (by simp) hg
    (ok_one (by kernel_rfl) rfl (okWide_bool_mk Tryz.underlying4 _))⟩
theorem fnQuantiles_holds:Rows.FnQuantilesSaid :=
  OpenClaim.holds_of_wide 3 Tryz.f3 rfl rfl rfl rfl rfl rfl rfl ⟨rfl,rfl,rfl,rfl,rfl⟩ rfl rfl rfl rfl rfl (by kernel_rfl) Tryz.func3 (by kernel_rfl)
    (of_decide_eq_true (by kernel_rfl)) (by unfold Func.isWrapper; first | (rw [if_pos (by decide +kernel)]; kernel_rfl) | (rw [if_neg (by decide +kernel)]; exact ⟨rfl,rfl⟩))
    (fun os started H enc _=>fnQuantiles_lifted os started H enc)
#print axioms fnQuantiles_holds
end Go.Proofs.YtllaekopaglolaaGreat
end
