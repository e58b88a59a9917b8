/-
  The cubic mapping's index,whole.
-/
import Derived.Test.YtllaekopaglolaaGreatHBN
import Derived.Test.YtllaekopaglolaaGreatHAL
import Derived.Test.YtllaekopaglolaaGreatHBO
import Derived.Test.YtllaekopaglolaaGreatHBM
import Derived.Test.YtllaekopaglolaaGreatHBJ
import Derived.Test.YtllaekopaglolaaGreatHAM
section
namespace Go.Proofs.YtllaekopaglolaaGreat
open Go.RowKit
open Ieee
set_option exponentiation.threshold 5000
def zFa (m:Nat):Bool:=decide (0≤cubY ((m:Int)*2^1022))
def zFZ (m:Nat):Bool:=decide (cubY (((4503599627370496 - m:Nat):Int)*2^1022)≤1*2^1074)
theorem zWD:(zFa 0&&zFa 1&&zFa 2&&zFa 3&&zFa 4&&zFa 5&&zFa 6&&zFa 7)=true:=by decide +kernel
theorem zWC:(zFZ 1&&zFZ 2&&zFZ 3&&zFZ 4&&zFZ 5&&zFZ 6&&zFZ 7&&zFZ 8)=true:=by decide +kernel
theorem zOc {m J:Nat} (hJ:J=1022) (hm:m<4503599627370496):0≤cubY ((m:Int)*2^J):=by
  by_cases h:m<8
  · have hl:=zWD
    simp only [Bool.and_eq_true] at hl
    obtain ⟨⟨⟨⟨⟨⟨⟨l0,l1⟩,l2⟩,l3⟩,l4⟩,l5⟩,l6⟩,l7⟩:=hl
    subst hJ
    have key:zFa m=true:=by
      match m,h with
      | 0,_=>exact l0
      | 1,_=>exact l1
      | 2,_=>exact l2
      | 3,_=>exact l3
      | 4,_=>exact l4
      | 5,_=>exact l5
      | 6,_=>exact l6
      | 7,_=>exact l7
    exact of_decide_eq_true key
  · obtain ⟨b1,b2⟩:=zFY hJ hm
    have n1:(m:Rat)≤4503599627370496:=by
      have:=Rat.natCast_le_natCast.2 (show m≤4503599627370496 by omega)
      exact this
    have n0:8≤(m:Rat):=by
      have:=Rat.natCast_le_natCast.2 (show 8≤m by omega)
      exact this
    have st:=zG4 (a:=qv cA) (b:=qv cB) (c:=qv cC) (s:=0) (t:=(m:Rat) / 4503599627370496) (by rw [zGW]; grind) (by grind) (by grind) (by rw [zGW,zI8]; grind) (by rw [zGW,zI8,zQ2]; grind)
    have p0:zFF (qv cA) (qv cB) (qv cC) 0=0:=by unfold zFF; grind
    rw [p0] at st
    have e0:qv 0=0:=by unfold qv; simp
    refine zGf ?_
    rw [e0]
    grind
theorem zOb {m J:Nat} (hJ:J=1022) (hm:m<4503599627370496):cubY ((m:Int)*2^J)≤1*2^(52+J):=by
  by_cases h:4503599627370496≤m+8
  · have hl:=zWC
    simp only [Bool.and_eq_true] at hl
    obtain ⟨⟨⟨⟨⟨⟨⟨l1,l2⟩,l3⟩,l4⟩,l5⟩,l6⟩,l7⟩,l8⟩:=hl
    subst hJ
    obtain ⟨k,hk⟩:∃ k,k=4503599627370496 - m:=⟨_,rfl⟩
    have hmk:m=4503599627370496 - k:=by omega
    have hk8:k<9:=by omega
    have hk0:k≠0:=by omega
    have key:zFZ k=true:=by
      match k,hk8,hk0 with
      | 1,_,_=>exact l1
      | 2,_,_=>exact l2
      | 3,_,_=>exact l3
      | 4,_,_=>exact l4
      | 5,_,_=>exact l5
      | 6,_,_=>exact l6
      | 7,_,_=>exact l7
      | 8,_,_=>exact l8
    have:=of_decide_eq_true key
    rw [hmk]
    exact this
  · obtain ⟨b1,b2⟩:=zFY hJ hm
    have n0:(0:Rat)≤(m:Rat):=Rat.natCast_nonneg
    have n1:(m:Rat)+8≤4503599627370496:=by
      have:=Rat.natCast_le_natCast.2 (show m+8≤4503599627370496 by omega)
      rw [Rat.natCast_add] at this
      exact this
    have st:=zG4 (a:=qv cA) (b:=qv cB) (c:=qv cC) (s:=(m:Rat) / 4503599627370496) (t:=1) (by rw [zGW]; grind) (by grind) (by grind) (by rw [zGW,zI8]; grind) (by rw [zGW,zI8,zQ2]; grind)
    have p1:zFF (qv cA) (qv cB) (qv cC) 1≤1+1 / 9007199254740992:=by unfold zFF; rw [zGW,zI8,zQ2]; grind
    have e1:=zCI 1 (52+J) (by omega)
    refine zGf ?_
    rw [e1]
    have:(((1:Int):Int):Rat)=1:=rfl
    rw [this]
    grind
def cubA (J x:Nat):Int:=rndI 0 (cubY (((x % 4503599627370496:Nat):Int)*2^J)+(((x / 4503599627370496:Nat):Int) - 1023)*2^(52+J))
theorem zS9 {x y J:Nat} (hJ:J=1022) (h:x+4≤y):cubA J x≤cubA J y:=by
  unfold cubA
  refine zCX 0 ?_
  have hx:=Nat.mod_lt x (show 0<4503599627370496 by decide)
  have hy:=Nat.mod_lt y (show 0<4503599627370496 by decide)
  by_cases he:x / 4503599627370496=y / 4503599627370496
  · rw [he]
    have:=zS8 hJ (m:=x % 4503599627370496) (n:=y % 4503599627370496) (by omega) hy
    omega
  · have t1:=zOb hJ hx
    have t2:=zOc hJ hy
    have hp:(0:Int)≤2^(52+J):=by rw [zBL]; exact Int.natCast_nonneg _
    have h1:((x / 4503599627370496:Nat):Int) - 1023+1≤((y / 4503599627370496:Nat):Int) - 1023:=by omega
    have h2:=Int.mul_le_mul_of_nonneg_right h1 hp
    rw [Int.add_mul] at h2
    omega
theorem zQa {x:Nat} (h1:4499096027743125504≤x) (h2:x≤4715268809856909312) (J:Nat) (hJ:J=1022):∃ z,zEr x=some z∧FV z (cubA J x) ∧ -64≤qv (cubA J x)∧qv (cubA J x)≤64:=by
  obtain ⟨b0,b1,b2,b3,b4,b5,b6,b7,b13,b14,b15⟩:=zIa
  have hE:=zSp (x:=x) (by omega) (by omega) (52+J) (by omega)
  have hS:=zNn (x:=x) (by omega)
  have qE:=zCI (((x / 4503599627370496:Nat):Int) - 1023) (52+J) (by omega)
  have qS:=zRk (4503599627370496+x % 4503599627370496)
  have hm:=Nat.mod_lt x (show 0<4503599627370496 by decide)
  have hO:=zGK 1 (52+J) (by omega) (by decide)
  have qO:=zCI 1 (52+J) (by omega)
  have ho1:floatOfInt .f64 1=4607182418800017408:=by decide +kernel
  rw [ho1] at hO
  have qO':qv (1*2^(52+J))=1:=by rw [qO]; rfl
  have r1:(-24:Rat)≤((((x / 4503599627370496:Nat):Int) - 1023:Int):Rat):=by
    have:=Rat.intCast_le_intCast.2 (show (-24:Int)≤((x / 4503599627370496:Nat):Int) - 1023 by omega)
    exact this
  have r2:((((x / 4503599627370496:Nat):Int) - 1023:Int):Rat)≤24:=by
    have:=Rat.intCast_le_intCast.2 (show ((x / 4503599627370496:Nat):Int) - 1023≤(24:Int) by omega)
    exact this
  have r3:(0:Rat)≤((4503599627370496+x % 4503599627370496:Nat):Rat):=by
    have:=Rat.natCast_le_natCast.2 (show 0≤4503599627370496+x % 4503599627370496 by omega)
    exact this
  have r4:((4503599627370496+x % 4503599627370496:Nat):Rat)≤9007199254740992:=by
    have:=Rat.natCast_le_natCast.2 (show 4503599627370496+x % 4503599627370496≤9007199254740992 by omega)
    exact this
  obtain ⟨zs,gs,fs,-,-⟩:=zHT 1027 hS hO (by decide) (by rw [qS,qO',b6]; grind) (by rw [qS,qO',b6]; grind)
  have es:PV false (4503599627370496+x % 4503599627370496) 1022 - 1*2^(52+J)=((x % 4503599627370496:Nat):Int)*2^J:=by
    rw [← hJ]
    have e:PV false (4503599627370496+x % 4503599627370496) J=((4503599627370496+x % 4503599627370496:Nat):Int)*2^J:=by
      unfold PV; rw [zBL,Int.natCast_mul]; simp
    rw [e,Int.pow_add,show (2:Int)^52=4503599627370496 from by decide,Int.one_mul,← Int.sub_mul]
    congr 1
    omega
  rw [es,zB1 _ J (by omega)] at fs
  obtain ⟨z1,z2,z3,z4,z5,g1,g2,g3,g4,g5,f5,-⟩:=zVT hJ (by omega) fs
  have t1:=zA9 (zOc hJ hm)
  have t2:=zA9 (zOb hJ hm)
  have e0:qv 0=0:=by unfold qv; simp
  rw [e0] at t1
  rw [qO'] at t2
  generalize hY:cubY (((x % 4503599627370496:Nat):Int)*2^J)=Y at *
  obtain ⟨z6,g6,f6,k1,k2⟩:=zHY 1027 f5 hE (by decide) (by rw [qE,b6]; grind) (by rw [qE,b6]; grind)
  rw [qE,b6] at k1 k2
  have hcA:cubA J x=rndI 0 (Y+(((x / 4503599627370496:Nat):Int) - 1023)*2^(52+J)):=by unfold cubA; rw [hY]
  rw [hcA]
  refine ⟨z6,?_,f6,by grind,by grind⟩
  unfold zEr
  simp only [gs,g1,g2,g3,g4,g5,g6,Option.bind_some]
theorem zFu {off mult:Nat} {c o:Int} (hm:FV mult c) (ho:FV off o) (c1:0<qv c) (c2:qv c≤128) (o1:0≤qv o) (o2:qv o≤128) {x:Nat} (h1:4499096027743125504≤x) (h2:x≤4715268809856909312) (J:Nat) (hJ:J=1022) :
    zCx off mult x=some (zKO (52+J) c o (cubA J x)):=by
  obtain ⟨z,hz,hf,a1,a2⟩:=zQa h1 h2 J hJ
  unfold zCx
  rw [hz]
  exact zE3 (by omega) hf hm ho a1 a2 c1 c2 o1 o2
theorem zNC {off mult:Nat} {c o:Int} (hm:FV mult c) (ho:FV off o) (c1:0<qv c) (c2:qv c≤128) (o1:0≤qv o) (o2:qv o≤128) {x y:Nat} (h1:4499096027743125504≤x) (h:x+4≤y) (h2:y≤4715268809856909312) :
    ∃ i j,zCx off mult x=some i∧zCx off mult y=some j∧i≤j:=by
  obtain ⟨J,hJ⟩:∃ J,J=1022:=⟨_,rfl⟩
  have hc:0≤c:=by
    have e0:qv 0=0:=by unfold qv; simp
    have:=zEU (a:=0) (b:=c) (by rw [e0]; exact c1)
    omega
  exact ⟨_,_,zFu hm ho c1 c2 o1 o2 h1 (by omega) J hJ,zFu hm ho c1 c2 o1 o2 (by omega) h2 J hJ,zFh hc (zS9 hJ h)⟩
end Go.Proofs.YtllaekopaglolaaGreat
end
/-
  What each kind of mapping tells,from the looks: a frame for all percents.
-/
section
namespace Go.Proofs.YtllaekopaglolaaGreat
open Go.RowKit
open Ieee
set_option exponentiation.threshold 5000
def zHw (of_:Nat→Option (Nat × Nat × Nat × Nat × Nat)) (acc:Nat→Option Nat) (idx:Nat→Nat→Nat→Option Int) (lower:Nat→Nat→Int→Option Nat) (value:Nat→Nat→Nat→Int→Option Nat) (p:Nat):Prop :=
  ∃ a g off mult mn mx ra part x,fdiv (floatOfInt .f64 p) 4636737291354636288=some a∧of_ a=some (g,off,mult,mn,mx)∧acc g=some ra∧zDy ra a 4472406533629990549=some true∧(posB mn=true∧finB mx=true)∧flt mn 4517329193108106637=true∧fgt mx 4696837146684686336=true ∧
    fmul a 4607182418804521008=some x∧fadd x 4427486594234968593=some part∧zGB p part=true ∧
    ∀ v w,4517329193108106637≤v→v≤w→w≤4696837146684686336→zTW (idx off mult) (lower off mult) (value g off mult) p part v∧zTW (idx off mult) (lower off mult) (value g off mult) p part w∧∃ i j,idx off mult v=some i∧idx off mult w=some j∧i≤j ∧ -5000≤i∧j≤5000
def zEb (o:Nat):Bool:=Nat.beq o 0||(Nat.ble 4503599627370496 o&&Nat.ble o 4638707616191610880)
def zD4 (o:Nat):Bool:=Nat.ble 4503599627370496 o&&Nat.ble o 4638707616191610880
theorem zRa:∃ K,K=1074∧rvN 4638707616191610880=128*2^K:=by
  refine ⟨1074,rfl,?_⟩
  decide +kernel
theorem zGv {o:Nat} (h:zD4 o=true):∃ c,FV o c∧0<qv c∧qv c≤128:=by
  unfold zD4 at h
  rw [Bool.and_eq_true] at h
  have h1:=Nat.le_of_ble_eq_true h.1
  have h2:=Nat.le_of_ble_eq_true h.2
  have hm:=zBx h1 h2
  obtain ⟨K,hK,hk⟩:=zRa
  refine ⟨_,zDP h1 (by omega),zH6 ?_,?_⟩
  · unfold rvN
    have:=Nat.mul_pos (show 0<4503599627370496+o % 4503599627370496 by omega) (Nat.two_pow_pos (o / 4503599627370496 - 1))
    omega
  · have e:=zCI 128 K hK
    have:qv ((rvN o:Nat):Int)≤qv (128*2^K):=zA9 (by
      rw [hk] at hm
      have:=Int.ofNat_le.2 hm
      rw [Int.natCast_mul,Int.natCast_pow] at this
      exact this)
    rw [e] at this
    exact this
theorem zJO {o:Nat} (h:zEb o=true):∃ c,FV o c∧0≤qv c∧qv c≤128:=by
  unfold zEb at h
  rw [Bool.or_eq_true] at h
  rcases h with h | h
  · have:=zBT h
    subst this
    have e0:qv 0=0:=by unfold qv; simp
    exact ⟨0,zA0,by rw [e0]; exact Rat.le_refl,by rw [e0]; decide⟩
  · obtain ⟨c,h1,h2,h3⟩:=zGv h
    exact ⟨c,h1,Rat.le_of_lt h2,h3⟩
def zDg (p a part:Nat):Bool :=
  (match qdiv (floatOfInt .f64 p) 4636737291354636288 with | some r=>Nat.beq r a | none=>false)&&((match qmul a 4607182418804521008 with | some x=>(match qadd x 4427486594234968593 with | some y=>Nat.beq y part | none=>false) | none=>false)&&zGB p part)
theorem zG6 {p a part:Nat} (h:zDg p a part=true):∃ x,fdiv (floatOfInt .f64 p) 4636737291354636288=some a∧fmul a 4607182418804521008=some x∧fadd x 4427486594234968593=some part∧zGB p part=true:=by
  unfold zDg at h
  simp only [Bool.and_eq_true] at h
  obtain ⟨h1,h2,h3⟩:=h
  rw [← zCG] at h1
  rw [← zBu] at h2
  cases ha:fdiv (floatOfInt .f64 p) 4636737291354636288 with
  | none=>rw [ha] at h1; cases h1
  | some r =>
    rw [ha] at h1
    have:=zBT h1
    subst this
    cases hx:fmul r 4607182418804521008 with
    | none=>rw [hx] at h2; cases h2
    | some x =>
      rw [hx] at h2
      dsimp only at h2
      rw [← zBE] at h2
      cases hy:fadd x 4427486594234968593 with
      | none=>rw [hy] at h2; cases h2
      | some y =>
        rw [hy] at h2
        have:=zBT h2
        subst this
        exact ⟨x,rfl,rfl,hy,h3⟩
theorem zIE {of_ ofQ:Nat→Option (Nat × Nat × Nat × Nat × Nat)} {acc accQ:Nat→Option Nat} {idx idxQ:Nat→Nat→Nat→Option Int} {lower lowerQ:Nat→Nat→Int→Option Nat} {value:Nat→Nat→Nat→Int→Option Nat}
    {p a off mult rb part:Nat} {i0 i1:Int} (e1:∀ a,of_ a=ofQ a) (e2:∀ g,acc g=accQ g) (e3:∀ o m v,idx o m v=idxQ o m v) (e4:∀ o m i,lower o m i=lowerQ o m i)
    (hval:∀ g o m i,value g o m i=(lower o m i).bind fun l=>(acc g).bind fun a=>(fadd 4607182418800017408 a).bind fun b=>fmul l b)
    (mono:∀ {off mult:Nat} {c o:Int},FV mult c→FV off o→0<qv c→qv c≤128→0≤qv o→qv o≤128→∀ {x y:Nat},4499096027743125504≤x→x≤y→y≤4715268809856909312→∃ i j,idx off mult x=some i∧idx off mult y=some j∧i≤j)
    (par:zEm ofQ accQ (idxQ off mult) a off mult rb i0 i1=true) (fact:∀ i,i0≤i→i≤i1+1→zHx (lowerQ off mult) (zAL (idxQ off mult)) rb p i)
    (hm:zD4 mult=true) (ho:zEb off=true) (hp:zDg p a part=true) (p1:1≤p) (p2:p≤50) (b0:-5000≤i0) (b1:i1≤5000):zHw of_ acc idx lower value p:=by
  obtain ⟨g,mn,mx,ra,o1,o2,o3,o4,o45,o5,o6,o7,o8⟩:=zH8 par
  obtain ⟨x,d1,d2,d3,d4⟩:=zG6 hp
  obtain ⟨c,fm,c1,c2⟩:=zGv hm
  obtain ⟨o,fo,z1,z2⟩:=zJO ho
  rw [← e1] at o1
  rw [← e2] at o2
  rw [← zBE] at o3
  rw [← zCh] at o5
  refine ⟨a,g,off,mult,mn,mx,ra,part,x,d1,o1,o2,o4,o45,o5,?_,d2,d3,d4,?_⟩
  · rw [zEu]; exact o6
  intro v w v1 vw w2
  have hV:∀ i b V,lower off mult i=some b→qmul b rb=some V→value g off mult i=some V:=fun i b V hb hq=>by
    rw [← zBu] at hq
    rw [hval,hb,o2]
    show (fadd 4607182418800017408 ra).bind _=_
    rw [o3]
    exact hq
  have hmono:∀ x y,4499096027743125504≤x→x≤y→y≤4715268809856909312→∃ i j,idx off mult x=some i∧idx off mult y=some j∧i≤j:=fun x y a b c=>mono fm fo c1 c2 z1 z2 a b c
  have ei:idxQ off mult=idx off mult:=funext fun v=>(e3 off mult v).symm
  have el:lowerQ off mult=lower off mult:=funext fun v=>(e4 off mult v).symm
  rw [ei] at o7 o8
  rw [ei,el] at fact
  have L:∀ v,4517329193108106637≤v→v≤4696837146684686336→Lies (idx off mult) (lower off mult) rb p v:=fun v a b=>zSS hmono fact o7 o8 (by omega) (by omega) a b
  exact ⟨zCf hV (L v v1 (by omega)) d4 p1 p2 v1 (by omega),zCf hV (L w (by omega) w2) d4 p1 p2 (by omega) w2,by
    obtain ⟨i,j,ei,ej,hij⟩:=hmono v w (by omega) vw (by omega)
    obtain ⟨k,l,ek,el',hkl⟩:=hmono 4517329193108106637 v (by omega) v1 (by omega)
    obtain ⟨m,n,em,en,hmn⟩:=hmono w 4696837146684686336 (by omega) w2 (by omega)
    rw [o7] at ek; cases ek
    rw [o8] at en; cases en
    rw [ei] at el'; cases el'
    rw [ej] at em; cases em
    exact ⟨_,_,ei,ej,hij,by omega,by omega⟩⟩
theorem zPM {of_ ofQ:Nat→Option (Nat × Nat × Nat × Nat × Nat)} {acc accQ:Nat→Option Nat} {idx idxQ:Nat→Nat→Nat→Option Int} {lower lowerQ:Nat→Nat→Int→Option Nat} {value:Nat→Nat→Nat→Int→Option Nat}
    {p a off mult rb part:Nat} {i0 i1:Int} (e1:∀ a,of_ a=ofQ a) (e2:∀ g,acc g=accQ g) (e3:∀ o m v,idx o m v=idxQ o m v) (e4:∀ o m i,lower o m i=lowerQ o m i)
    (hval:∀ g o m i,value g o m i=(lower o m i).bind fun l=>(acc g).bind fun a=>(fadd 4607182418800017408 a).bind fun b=>fmul l b)
    (step:∀ {off mult:Nat} {c o:Int},FV mult c→FV off o→0<qv c→qv c≤128→0≤qv o→qv o≤128→∀ {x y:Nat},4499096027743125504≤x→x+4≤y→y≤4715268809856909312→∃ i j,idx off mult x=some i∧idx off mult y=some j∧i≤j)
    (tot:∀ {off mult:Nat} {c o:Int},FV mult c→FV off o→0<qv c→qv c≤128→0≤qv o→qv o≤128→∀ {x:Nat},4499096027743125504≤x→x≤4715268809856909312→∃ i,idx off mult x=some i)
    (par:zEm ofQ accQ (idxQ off mult) a off mult rb i0 i1=true) (fact:∀ i,i0≤i→i≤i1+1→zHx (lowerQ off mult) (zAk (idxQ off mult)) rb p i) (h01:i0≤i1)
    (hm:zD4 mult=true) (ho:zEb off=true) (hp:zDg p a part=true) (p1:1≤p) (p2:p≤50) (b0:-5000≤i0) (b1:i1≤5000):zHw of_ acc idx lower value p:=by
  obtain ⟨g,mn,mx,ra,o1,o2,o3,o4,o45,o5,o6,o7,o8⟩:=zH8 par
  obtain ⟨x,d1,d2,d3,d4⟩:=zG6 hp
  obtain ⟨c,fm,c1,c2⟩:=zGv hm
  obtain ⟨o,fo,z1,z2⟩:=zJO ho
  rw [← e1] at o1
  rw [← e2] at o2
  rw [← zBE] at o3
  rw [← zCh] at o5
  refine ⟨a,g,off,mult,mn,mx,ra,part,x,d1,o1,o2,o4,o45,o5,?_,d2,d3,d4,?_⟩
  · rw [zEu]; exact o6
  intro v w v1 vw w2
  have hV:∀ i b V,lower off mult i=some b→qmul b rb=some V→value g off mult i=some V:=fun i b V hb hq=>by
    rw [← zBu] at hq
    rw [hval,hb,o2]
    show (fadd 4607182418800017408 ra).bind _=_
    rw [o3]
    exact hq
  have ei:idxQ off mult=idx off mult:=funext fun v=>(e3 off mult v).symm
  have el:lowerQ off mult=lower off mult:=funext fun v=>(e4 off mult v).symm
  rw [ei] at o7 o8
  rw [ei,el] at fact
  obtain ⟨L1,L2,L3⟩:=zIq (fun x y a b c=>step fm fo c1 c2 z1 z2 a b c) (fun x a b=>tot fm fo c1 c2 z1 z2 a b) fact h01 o7 o8 (by omega) (by omega) (by omega) v1 vw w2
  obtain ⟨-,-,k,l,ek,el',hkl⟩:=zIq (fun x y a b c=>step fm fo c1 c2 z1 z2 a b c) (fun x a b=>tot fm fo c1 c2 z1 z2 a b) fact h01 o7 o8 (by omega) (by omega) (by omega) (Nat.le_refl _) v1 (by omega)
  obtain ⟨-,-,m,n,em,en,hmn⟩:=zIq (fun x y a b c=>step fm fo c1 c2 z1 z2 a b c) (fun x a b=>tot fm fo c1 c2 z1 z2 a b) fact h01 o7 o8 (by omega) (by omega) (by omega) (show _≤w by omega) w2 (Nat.le_refl _)
  refine ⟨zCf hV L1 d4 p1 p2 v1 (by omega),zCf hV L2 d4 p1 p2 (by omega) w2,?_⟩
  obtain ⟨i,j,ei,ej,hij⟩:=L3
  rw [o7] at ek; cases ek
  rw [o8] at en; cases en
  rw [ei] at el'; cases el'
  rw [ej] at em; cases em
  exact ⟨_,_,ei,ej,hij,by omega,by omega⟩
end Go.Proofs.YtllaekopaglolaaGreat
end
/-
  The law of quantiles,plainly: what right and impl.Quantiles want.
-/
section
namespace Go.Proofs.YtllaekopaglolaaGreat
open Go.RowKit
set_option exponentiation.threshold 5000
theorem zVw {of_:Nat→Option (Nat × Nat × Nat × Nat × Nat)} {acc:Nat→Option Nat} {idx:Nat→Nat→Nat→Option Int} {lower:Nat→Nat→Int→Option Nat} {value:Nat→Nat→Nat→Int→Option Nat} {p:Nat} (ok:zHw of_ acc idx lower value p) :
    ∃ a g off mult mn mx part x,fdiv (floatOfInt .f64 p) 4636737291354636288=some a∧of_ a=some (g,off,mult,mn,mx)∧Bnd mn mx∧fmul a 4607182418804521008=some x∧fadd x 4427486594234968593=some part∧zGB p part=true ∧
      zC4 (idx off mult)∧zRC (idx off mult)∧zVX (idx off mult) (value g off mult) p:=by
  obtain ⟨a,g,off,mult,mn,mx,ra,part,x,o1,o2,-,-,⟨b1,b2⟩,o5,o6,o7,o8,o9,tells⟩:=ok
  refine ⟨a,g,off,mult,mn,mx,part,x,o1,o2,⟨b1,b2,o5,o6⟩,o7,o8,o9,fun v h1 h2=>?_,fun v w h1 h2 h3=>?_,fun v h1 h2=>?_⟩
  · obtain ⟨-,-,i,j,ei,ej,hij,l1,l2⟩:=tells v v h1 (Nat.le_refl _) h2
    rw [ei] at ej
    cases ej
    exact ⟨i,ei,l1,l2⟩
  · obtain ⟨-,-,i,j,ei,ej,hij,-,-⟩:=tells v w h1 h2 h3
    exact ⟨i,j,ei,ej,hij⟩
  · obtain ⟨⟨i,V,b,b',s,t,e1,e2,-,-,-,-,-,-,-,e3⟩,-⟩:=tells v v h1 (Nat.le_refl _) h2
    exact ⟨i,V,e1,e2,e3⟩
theorem zTV {xs:Items} (h:∀ q∈xs,zAU q):absI xs≤((2^1098*100*xs.length:Nat):Int):=by
  induction xs with
  | nil=>exact Int.natCast_nonneg _
  | cons q t ih =>
    have h1:=ih (fun q hq=>h q (List.mem_cons_of_mem _ hq))
    have h2:=zI2 (h q List.mem_cons_self)
    show (((eI q).natAbs:Nat):Int)+absI t≤_
    rw [List.length_cons,Nat.mul_add,Nat.mul_one,Int.natCast_add]
    generalize 2^1098*100*t.length=a at *
    generalize 2^1098*100=b at *
    omega
theorem zXL {xs:Items} (h:∀ q∈xs,zAU q) (hn:xs.length≤400):qv (absI xs)≤1099511627776:=by
  have h1:=zA9 (zTV h)
  have e:((2^1098*100*xs.length:Nat):Int)=((1677721600*xs.length:Nat):Int)*2^1074:=by
    have e1:(2:Nat)^1098=16777216*2^1074:=by rw [show (16777216:Nat)=2^24 from by decide,← Nat.pow_add]
    rw [e1,show 16777216*2^1074*100*xs.length=1677721600*xs.length*2^1074 from by
      generalize (2:Nat)^1074=T
      rw [Nat.mul_right_comm 16777216 T 100,Nat.mul_right_comm _ T],Int.natCast_mul _ (2^1074),Int.natCast_pow]
    rfl
  rw [e,zCI _ _ rfl,Rat.intCast_natCast] at h1
  have h2:((1677721600*xs.length:Nat):Rat)≤((671088640000:Nat):Rat):=Rat.natCast_le_natCast.2 (by omega)
  have e3:((671088640000:Nat):Rat)=671088640000:=rfl
  rw [e3] at h2
  grind
theorem zQs {xs L:Items} {lo hi:Nat} (he:Ends xs lo hi) (hp:L.Perm xs) (hs:Srt L) (h:0<L.length):FV lo (vI L[0].1):=by
  rcases he with ⟨h1,-⟩ | ⟨-,a,b,fa,fb,⟨q,hq,e⟩,l1,-,-⟩
  · subst h1; rw [hp.length_eq] at h; exact absurd h (Nat.lt_irrefl 0)
  · have h2:=l1 _ (hp.mem_iff.1 (List.getElem_mem h))
    obtain ⟨i,hi',e2⟩:=List.getElem_of_mem (hp.mem_iff.2 hq)
    have h3:vI L[0].1≤a:=by
      rw [← e,← e2]
      by_cases h0:i=0
      · subst h0; exact Int.le_refl _
      · exact hs 0 i h hi' (by omega)
    have:vI L[0].1=a:=by omega
    rw [this]; exact fa
theorem zSz {xs L:Items} {lo hi:Nat} (he:Ends xs lo hi) (hp:L.Perm xs) (hs:Srt L) (h:L.length - 1<L.length):FV hi (vI L[L.length - 1].1):=by
  rcases he with ⟨h1,-⟩ | ⟨-,a,b,fa,fb,-,-,⟨q,hq,e⟩,l2⟩
  · subst h1; have:=hp.length_eq; rw [List.length_nil] at this; omega
  · have h2:=l2 _ (hp.mem_iff.1 (List.getElem_mem h))
    obtain ⟨i,hi',e2⟩:=List.getElem_of_mem (hp.mem_iff.2 hq)
    have h3:b≤vI L[L.length - 1].1:=by
      rw [← e,← e2]
      by_cases h0:i=L.length - 1
      · subst h0; exact Int.le_refl _
      · exact hs i (L.length - 1) hi' h (by omega)
    have:vI L[L.length - 1].1=b:=by omega
    rw [this]; exact fb
theorem zVN {q:Nat × Nat} (h:zAU q):(vI q.1).natAbs≤2^1099:=by
  refine Nat.le_trans ?_ (Nat.pow_le_pow_right (by decide) (show 1098≤1099 by decide))
  obtain ⟨-,hc⟩:=zAx h.lt h.fits
  rcases hc with ⟨h0,-⟩ | ⟨-,h1,h2,h3⟩ | ⟨-,h1,h2,h3,h4,-⟩
  · rw [h0]; exact Nat.zero_le _
  · rw [h3,Int.natAbs_natCast]; exact (zBO (by omega) (by omega)).2
  · rw [h4,Int.natAbs_neg,Int.natAbs_natCast]; exact (zBO (by omega) (by omega)).2
theorem zOU (l:List Nat) (i:Nat) (h:i<l.length):l.getD i 0=l[i]:=by
  rw [List.getD_eq_getElem?_getD,List.getElem?_eq_getElem h]; rfl
theorem zUW {w:World} {gv:Nat} {outs:List Nat} {g:Nat→Nat} (h:FRow w gv outs.length (fun i=>g (outs.getD i 0))):LieN w (some ⟨gv,0,none⟩) (outs.map g):=by
  refine .inr ⟨gv,0,rfl,fun i hi=>?_⟩
  rw [List.length_map] at hi
  have:=(h.cell hi).1
  rw [Nat.zero_add,this,List.getElem_map,zOU _ _ hi]
theorem zRi {p part x a:Nat} (hpa:fmul a 4607182418804521008=some x) (hpart:fadd x 4427486594234968593=some part) (hok:zGB p part=true) (p1:1≤p) {xs:Items} (hx:∀ q∈xs,zAU q) (h0:0<xs.length) (hn:xs.length≤120)
   {c s k l lo hi y:Nat} {B2:Rat} (hB2:B2≤4*qv (absI xs)) (hst:zGX B2 xs c s k l lo hi) (hy:fadd s k=some y) (qs outs:List Nat) (hol:outs.length=qs.length) (hql:qs.length≤1000000)
   (hA:∀ i,(h:i<qs.length)→∀ L:Items,L.Perm xs→Srt L→∀ lo hi',Ends xs lo hi'→zFf L qs[i] (zBj lo hi' (outs.getD i 0)) part)
   (ax aq:Option Addr) (cx cq gv:Nat) (w:World) (hl:LieR w ax (fi xs)) (hq:LieN w aq qs) (hv:FRow w gv outs.length (fun i=>zBj lo hi (outs.getD i 0))) :
    Calls Tryz.prog 10 #[.float .f64 a,.slice ax xs.length cx,.slice aq qs.length cq,.slice (some ⟨gv,0,none⟩) outs.length outs.length,.float .f64 c,.float .f64 y,.float .f64 lo,.float .f64 hi] w fun e w'=>e = .returned (.bool true)∧Below w.heap.size w w':=by
  obtain ⟨fp,hP,hP2⟩:=zG5 hok
  have hB0:0≤qv (absI xs):=by have:=zA9 (zBk xs); rwa [zCq] at this
  have hn4:xs.length≤400:=by omega
  have hB1:=zXL hx hn4
  have hlen:(outs.map (zBj lo hi)).length=outs.length:=List.length_map ..
  have hp0:1 / 100≤qv ((rvN part:Nat):Int):=by
    have h1:10000000005*2^1074≤1000000000000*rvN part:=Nat.le_trans (Nat.mul_le_mul_right _ (by omega)) hP
    have h2:=zA9 (Int.ofNat_le.2 h1)
    rw [Int.natCast_mul,Int.natCast_mul,Int.natCast_pow] at h2
    have e1:qv (((10000000005:Nat):Int)*((2:Nat):Int)^1074)=10000000005:=by rw [show ((2:Nat):Int)=2 from rfl,zCI _ _ rfl]; rfl
    rw [e1] at h2
    have e2:qv (((1000000000000:Nat):Int)*((rvN part:Nat):Int))=1000000000000*qv ((rvN part:Nat):Int):=by
      have e3:((((1000000000000:Nat):Int)):Rat)=1000000000000:=rfl
      unfold qv; rw [Rat.intCast_mul,e3]; grind
    rw [e2] at h2
    generalize qv ((rvN part:Nat):Int)=r at *
    grind
  have hp1:qv ((rvN part:Nat):Int)≤1:=by
    have h2:=zA9 (Int.ofNat_le.2 hP2)
    rw [Int.natCast_pow] at h2
    have e1:qv (((2:Nat):Int)^1074)=1:=by
      have:=zCI 1 1074 rfl
      rw [Int.one_mul] at this
      exact this
    rw [e1] at h2
    exact h2
  have hnr:((xs.length:Nat):Rat)≤120:=by
    have:((xs.length:Nat):Rat)≤((120:Nat):Rat):=Rat.natCast_le_natCast.2 hn
    exact this
  have:=zRh a x part c y lo hi cx cq outs.length ax aq (some ⟨gv,0,none⟩) xs qs (outs.map (zBj lo hi)) (qv (absI xs)) w hl hq (zUW hv) (by rw [hlen]; exact hol) hql h0 hn4 hx hst.cnt hpa hpart
    (fun L hp hs i hi'=>by
      rw [List.getElem_map,← zOU outs i (by omega)]
      exact hA i hi' L hp hs lo hi hst.ends) hB0 hB1 Rat.le_refl
    (fun l z h1 h2=>zRN hst.sum hB2 h1 h2 rfl hnr hB1 hy fp hp0 hp1)
    (fun L hp hs h=>by
      have hm:=hx _ (hp.mem_iff.1 (List.getElem_mem h))
      exact zHD (zQs hst.ends hp hs h) (zAx hm.lt hm.fits).1 fp (zVN hm) (Nat.le_trans hP2 (Nat.pow_le_pow_right (by decide) (by decide))))
    (fun L hp hs h=>by
      have hm:=hx _ (hp.mem_iff.1 (List.getElem_mem h))
      exact zHD (zSz hst.ends hp hs h) (zAx hm.lt hm.fits).1 fp (zVN hm) (Nat.le_trans hP2 (Nat.pow_le_pow_right (by decide) (by decide))))
  rw [hlen] at this
  exact this
end Go.Proofs.YtllaekopaglolaaGreat
end
/-
  spec.Proper: whether bins are ones that are compared; what such bins are.
-/
section
namespace Go.Proofs.YtllaekopaglolaaGreat
open Go.RowKit Ieee
set_option exponentiation.threshold 3000
def okC (c:Nat):Bool :=
  !(FloatKind.f64.format.order c 4607182418800017408 == some .lt) && !(FloatKind.f64.format.order c 4652007308841189376 == some .gt) &&
  (((floatToIntVal .f64 c .i64).map fun n=>FloatKind.f64.format.order c (floatOfInt .f64 n) == some .eq) == some true)
theorem zJ2 (m:Nat) (i:Int) (g1:-1074≤i) (lo:2^1074≤m*2^(i+1074).toNat) (hi:m*2^(i+1074).toNat≤1000*2^1074) :
    ∃ k:Nat,1≤k∧k≤1000∧Toward.zero.cut false (m <<< i.toNat) (-i).toNat=k:=by
  have hM:2^(-i).toNat≤m <<< i.toNat∧m <<< i.toNat≤1000*2^(-i).toNat:=by
    rw [Nat.shiftLeft_eq]
    have e:1074+i.toNat=(i+1074).toNat+(-i).toNat:=by omega
    have e2:m*2^i.toNat*2^1074=m*2^(i+1074).toNat*2^(-i).toNat:=by
      rw [Nat.mul_assoc,← Nat.pow_add,Nat.add_comm,e,Nat.pow_add,Nat.mul_assoc]
    refine ⟨?_,?_⟩
    · refine Nat.le_of_mul_le_mul_right ?_ (Nat.two_pow_pos 1074)
      rw [e2,Nat.mul_comm (2^(-i).toNat)]
      exact Nat.mul_le_mul_right _ lo
    · refine Nat.le_of_mul_le_mul_right ?_ (Nat.two_pow_pos 1074)
      rw [e2,show 1000*2^(-i).toNat*2^1074=1000*2^1074*2^(-i).toNat from by ac_rfl]
      exact Nat.mul_le_mul_right _ hi
  revert hM
  generalize m <<< i.toNat=M
  generalize (-i).toNat=d
  rintro ⟨h1,h2⟩
  have hd0:=Nat.two_pow_pos d
  have hM0:M≠0:=by omega
  have hl:d≤M.log2+2:=by have:=(Nat.le_log2 hM0).2 h1; omega
  refine ⟨M / 2^d,(Nat.le_div_iff_mul_le hd0).2 (by omega),?_,?_⟩
  · have:=Nat.div_le_div_right (c:=2^d) h2
    rwa [Nat.mul_div_cancel _ hd0] at this
  · unfold Toward.cut
    simp only [Bool.toNat_false,Nat.add_zero,Nat.one_shiftLeft,Nat.min_eq_left hl]
theorem zR4 (c:Nat) (hc:c<18446744073709551616) (h:okC c=true):∃ n,1≤n∧n≤1000∧c=nf n:=by
  unfold okC at h
  simp only [Bool.and_eq_true,Bool.not_eq_true',beq_iff_eq,Option.map_eq_some_iff] at h
  obtain ⟨⟨h1,h2⟩,n,hn,he⟩:=h
  have h1':¬ FloatKind.f64.format.order c (nf 1)=some .lt:=by rw [zCs]; simpa using h1
  have h2':¬ FloatKind.f64.format.order c (nf 1000)=some .gt:=by rw [zEn]; simpa using h2
  obtain ⟨m1,i1,r1,p1,v1⟩:=zBf 1 (by decide)
  obtain ⟨m2,i2,r2,p2,v2⟩:=zBf 1000 (by decide)
  unfold floatToIntVal at hn
  have hrd:FloatKind.f64.decode c=double.read c:=rfl
  rw [hrd] at hn
  have q1:¬ (double.read c).order (double.read (nf 1))=some .lt:=h1'
  have q2:¬ (double.read c).order (double.read (nf 1000))=some .gt:=h2'
  rw [r1] at q1
  rw [r2] at q2
  cases hr:double.read c with
  | nan s t=>rw [hr] at hn; simp [Datum.toInt,Datum.integral] at hn
  | infinity s=>rw [hr] at hn; simp [Datum.toInt,Datum.integral] at hn
  | number s m i =>
    obtain ⟨g1,g2,g3⟩:=zAT hr
    rw [hr] at hn q1 q2
    rw [zCC _ _ _ _ _ _ g1 p1,v1] at q1
    rw [zCC _ _ _ _ _ _ g1 p2,v2] at q2
    have hlo:(2:Int)^1074≤sv s m i:=by
      rcases Int.lt_trichotomy (sv s m i) (((1:Nat):Int)*2^1074) with h | h | h
      · exact absurd (by rw [Int.compare_eq_lt.2 h]) q1
      · rw [h]; omega
      · omega
    have hhi:sv s m i≤1000*2^1074:=by
      rcases Int.lt_trichotomy (sv s m i) (((1000:Nat):Int)*2^1074) with h | h | h
      · omega
      · rw [h]; omega
      · exact absurd (by rw [Int.compare_eq_gt.2 h]) q2
    have hp:=zCM
    have hs:s=false:=by
      cases s with
      | false=>rfl
      | true =>
        exfalso
        unfold sv at hlo
        rw [zAn] at hlo
        have:(0:Int)≤(m:Int)*2^(i+1074).toNat:=Int.mul_nonneg (by omega) (Int.le_of_lt (zBN _))
        simp at hlo
        omega
    subst hs
    rw [zCS] at hlo hhi
    have lo:2^1074≤m*2^(i+1074).toNat:=by
      have e:((2^1074:Nat):Int)=(2:Int)^1074:=by rw [Int.natCast_pow]; rfl
      rw [← e] at hlo
      exact Int.ofNat_le.1 hlo
    have hi:m*2^(i+1074).toNat≤1000*2^1074:=by
      have e:((1000*2^1074:Nat):Int)=(1000:Int)*2^1074:=by rw [Int.natCast_mul,Int.natCast_pow]; rfl
      rw [← e] at hhi
      exact Int.ofNat_le.1 hhi
    have hcut:=zJ2 m i g1 lo hi
    obtain ⟨k,k1,k2,hk⟩:=hcut
    simp only [Datum.toInt,Datum.integral,hk] at hn
    have hsk:signed false k 0=(k:Int):=by rw [zAn]; simp
    rw [hsk] at hn
    split at hn
    · obtain rfl:=Option.some.inj hn
      exact ⟨k,k1,k2,zW7 hc (by omega) (by omega) he⟩
    · cases hn
section
variable {P:Program}
theorem zDx (w:World) (src dst:TypeId) (s:FloatKind) (k:IntKind) (b:Nat) (hs:(P.underlying src).isSome=true) (hd:P.underlying dst=some (.int k)) (h:floatToIntVal s b k=none) :
    ∃ n,(convert src dst (.float s b)).run P w = .ok (.int k n) w.drew:=by
  obtain ⟨u,hs'⟩:=Option.isSome_iff_exists.1 hs
  unfold floatToIntVal at h
  split at h
  · rename_i m he
    split at h
    · cases h
    · rename_i hb
      cases u <;> simp [convert,run_underlying hs',run_underlying hd,Conv.floatToInt,he,hb,Question.forced]
  · rename_i he
    cases u <;> simp [convert,run_underlying hs',run_underlying hd,Conv.floatToInt,he,Question.forced]
end
theorem zPC {c:Nat} (h1:(FloatKind.f64.format.order c 4607182418800017408 == some .lt)=false) (h2:(FloatKind.f64.format.order c 4652007308841189376 == some .gt)=false) (h:floatToIntVal .f64 c .i64=none) (x:Nat) :
    (FloatKind.f64.format.order c x != some .eq)=true:=by
  have h1':¬ FloatKind.f64.format.order c (nf 1)=some .lt:=by rw [zCs]; simpa using h1
  have h2':¬ FloatKind.f64.format.order c (nf 1000)=some .gt:=by rw [zEn]; simpa using h2
  obtain ⟨m1,i1,r1,p1,v1⟩:=zBf 1 (by decide)
  obtain ⟨m2,i2,r2,p2,v2⟩:=zBf 1000 (by decide)
  have q1:¬ (double.read c).order (double.read (nf 1))=some .lt:=h1'
  have q2:¬ (double.read c).order (double.read (nf 1000))=some .gt:=h2'
  rw [r1] at q1
  rw [r2] at q2
  cases hr:double.read c with
  | nan s t =>
    have:FloatKind.f64.format.order c x=none:=by
      show (double.read c).order (double.read x)=none
      rw [hr]; rfl
    rw [this]; rfl
  | infinity s =>
    rw [hr] at q1 q2
    cases s <;> simp [Datum.order] at q1 q2
  | number s m i =>
    exfalso
    obtain ⟨g1,g2,g3⟩:=zAT hr
    rw [hr] at q1 q2
    rw [zCC _ _ _ _ _ _ g1 p1,v1] at q1
    rw [zCC _ _ _ _ _ _ g1 p2,v2] at q2
    have hlo:(2:Int)^1074≤sv s m i:=by
      rcases Int.lt_trichotomy (sv s m i) (((1:Nat):Int)*2^1074) with h | h | h
      · exact absurd (by rw [Int.compare_eq_lt.2 h]) q1
      · rw [h]; omega
      · omega
    have hhi:sv s m i≤1000*2^1074:=by
      rcases Int.lt_trichotomy (sv s m i) (((1000:Nat):Int)*2^1074) with h | h | h
      · omega
      · rw [h]; omega
      · exact absurd (by rw [Int.compare_eq_gt.2 h]) q2
    have hp:=zCM
    have hs:s=false:=by
      cases s with
      | false=>rfl
      | true =>
        exfalso
        unfold sv at hlo
        rw [zAn] at hlo
        have:(0:Int)≤(m:Int)*2^(i+1074).toNat:=Int.mul_nonneg (by omega) (Int.le_of_lt (zBN _))
        simp at hlo
        omega
    subst hs
    rw [zCS] at hlo hhi
    have lo:2^1074≤m*2^(i+1074).toNat:=by
      have e:((2^1074:Nat):Int)=(2:Int)^1074:=by rw [Int.natCast_pow]; rfl
      rw [← e] at hlo
      exact Int.ofNat_le.1 hlo
    have hi:m*2^(i+1074).toNat≤1000*2^1074:=by
      have e:((1000*2^1074:Nat):Int)=(1000:Int)*2^1074:=by rw [Int.natCast_mul,Int.natCast_pow]; rfl
      rw [← e] at hhi
      exact Int.ofNat_le.1 hhi
    obtain ⟨k,k1,k2,hk⟩:=zJ2 m i g1 lo hi
    unfold floatToIntVal at h
    have hrd:FloatKind.f64.decode c=double.read c:=rfl
    rw [hrd,hr] at h
    simp only [Datum.toInt,Datum.integral,hk] at h
    have hsk:signed false k 0=(k:Int):=by rw [zAn]; simp
    rw [hsk] at h
    have hb:IntKind.i64.min≤(k:Int)∧(k:Int)≤IntKind.i64.max:=by
      have e1:IntKind.i64.min = -9223372036854775808:=by decide
      have e2:IntKind.i64.max=9223372036854775807:=by decide
      rw [e1,e2]; omega
    rw [if_pos hb] at h
    cases h
end Go.Proofs.YtllaekopaglolaaGreat
end
