/-
  The mappings,fit to be computed. (Printed by gen_q.py.)
-/
import Derived.Test.YtllaekopaglolaaGreatHAI
import Derived.Test.YtllaekopaglolaaGreatHAE
section
namespace Go.Proofs.YtllaekopaglolaaGreat
open Go.RowKit
set_option maxRecDepth 10000
def zHV (x:Nat):Option Int:=(qf2i x).map fun n=>if qge x 0=true then n else wrap64 (n - 1)
theorem zIy (x:Nat):zDw x=zHV x:=by
  unfold zDw zHV
  rw [zNJ]
  simp only [zQn]
def zRu (x:Nat) (y:Nat):Option Nat :=
  (need (!(qeq y 0))).bind fun _ =>
  (need (!(qeq x 4607182418800017408))).bind fun _ =>
  (need (!(qeq y 4607182418800017408))).bind fun _ =>
  (need (zBq x)).bind fun _ =>
  (need (zBq y)).bind fun _ =>
  (need (!(qeq x 0))).bind fun _ =>
  (need (zDt y)).bind fun _ =>
  (need (zDt x)).bind fun _ =>
  (need (!(qeq y 4602678819172646912))).bind fun _ =>
  (need (!(qeq y 13826050856027422720))).bind fun _ =>
  (some (qabs y)).bind fun ya =>
  (zKY ya).bind fun ⟨yi,yf⟩ =>
  (need (!(qeq yf 0))).bind fun _ =>
  (need (!(qlt x 0))).bind fun _ =>
  (need (!(qge yi 4890909195324358656))).bind fun _ =>
  (need (qgt yf 4602678819172646912)).bind fun _ =>
  (qsub yf 4607182418800017408).bind fun yg =>
  (qadd yi 4607182418800017408).bind fun yj =>
  (logQ x).bind fun l =>
  (qmul yg l).bind fun m =>
  (expQ m).bind fun a1 =>
  (zGA x).bind fun ⟨x1,xe⟩ =>
  (qf2i yj).bind fun i =>
  (need (decide (i=1)&&(decide (-4096≤xe)&&decide (xe≤4096)))).bind fun _ =>
  (qmul a1 x1).bind fun a2 =>
  (qmul x1 x1).bind fun x2 =>
  (qadd x2 x2).bind fun _x3 =>
  (need (!(qlt y 0))).bind fun _ =>
  (zJU a2 xe).bind fun r =>
  some r
theorem zVq (x:Nat) (y:Nat):zJV x y=zRu x y:=by
  unfold zJV zRu
  simp only [zBE,zBZ,zBu,zCh,zEu,zFy,zQn,zCE,zEC,zFv,zJf,zM4,zNJ,zVW,zJw,zQV]
def zIf (x:Nat) (y:Nat):Option Nat :=
  (need (!(qeq y 0))).bind fun _ =>
  (need (!(qeq x 4607182418800017408))).bind fun _ =>
  (need (!(qeq y 4607182418800017408))).bind fun _ =>
  (need (zBq x)).bind fun _ =>
  (need (zBq y)).bind fun _ =>
  (need (!(qeq x 0))).bind fun _ =>
  (need (zDt y)).bind fun _ =>
  (need (zDt x)).bind fun _ =>
  (need (!(qeq y 4602678819172646912))).bind fun _ =>
  (need (!(qeq y 13826050856027422720))).bind fun _ =>
  (some (qabs y)).bind fun ya =>
  (zKY ya).bind fun ⟨yi,yf⟩ =>
  (need (!(qeq yf 0))).bind fun _ =>
  (need (!(qlt x 0))).bind fun _ =>
  (need (!(qge yi 4890909195324358656))).bind fun _ =>
  (need (!(qgt yf 4602678819172646912))).bind fun _ =>
  (logQ x).bind fun l =>
  (qmul yf l).bind fun m =>
  (expQ m).bind fun a1 =>
  (zGA x).bind fun ⟨x1,xe⟩ =>
  (qf2i yi).bind fun i =>
  (need (decide (i=1)&&(decide (-4096≤xe)&&decide (xe≤4096)))).bind fun _ =>
  (qmul a1 x1).bind fun a2 =>
  (qmul x1 x1).bind fun x2 =>
  (qadd x2 x2).bind fun _x3 =>
  (need (!(qlt y 0))).bind fun _ =>
  (zJU a2 xe).bind fun r =>
  some r
theorem zRv (x:Nat) (y:Nat):zFE x y=zIf x y:=by
  unfold zFE zIf
  simp only [zBE,zBu,zCh,zEu,zFy,zQn,zCE,zEC,zFv,zJf,zM4,zNJ,zVW,zJw,zQV]
def powQ (x y:Nat):Option Nat:=(zRu x y).or (zIf x y)
theorem zT6 (x y:Nat):powF x y=powQ x y:=by
  unfold powF powQ
  simp only [zVq,zRv]
def zKf (g:Nat) (off:Nat):Option (Nat × Nat × Nat) :=
  (need (!(qle g 4607182418800017408))).bind fun _ =>
  (logQ g).bind fun l =>
  (qdiv 4607182418800017408 l).bind fun mult =>
  (qsub 13970166044103278592 off).bind fun a1 =>
  (qdiv a1 mult).bind fun a2 =>
  (qadd a2 4607182418800017408).bind fun a3 =>
  (expQ a3).bind fun ex1 =>
  (need (ex1 == 0)).bind fun _ =>
  (qmul 4503599627370496 g).bind fun mn =>
  (need (!(qgt mn 9218868437227405311))).bind fun _ =>
  (need (zBq mn)).bind fun _ =>
  (need (!(qeq 0 mn))).bind fun _ =>
  (need (!(qgt 0 mn))).bind fun _ =>
  (qsub 4746794007244308480 off).bind fun c1 =>
  (qdiv c1 mult).bind fun c2 =>
  (qsub c2 4607182418800017408).bind fun c3 =>
  (expQ c3).bind fun ex2 =>
  (need (ex2 == 9218868437227405312)).bind fun _ =>
  (expQ 4649451482093607557).bind fun ex3 =>
  (qmul 4611686018427387904 g).bind fun d1 =>
  (qdiv ex3 d1).bind fun d2 =>
  (qadd g 4607182418800017408).bind fun d3 =>
  (qmul d2 d3).bind fun mx =>
  (need (!(qgt (qneg mx) 9218868437227405311))).bind fun _ =>
  (need (zBq mx)).bind fun _ =>
  (need (!(qlt 9218868437227405312 mx))).bind fun _ =>
  some (mult,mn,mx)
theorem zUF (g:Nat) (off:Nat):zG8 g off=zKf g off:=by
  unfold zG8 zKf
  simp only [zBE,zBZ,zBu,zCG,zCh,zEu,zFy,zNH,zCE,zKi,zJw,zQV]
def zKg (g:Nat) (off:Nat):Option (Nat × Nat × Nat) :=
  (need (!(qle g 4607182418800017408))).bind fun _ =>
  (zM2 g).bind fun l =>
  (qdiv 4607182418800017408 l).bind fun mult =>
  (powQ g 4609176140021203710).bind fun adj =>
  (qsub 13970166044103278592 off).bind fun a1 =>
  (qdiv a1 mult).bind fun a2 =>
  (qadd a2 4607182418800017408).bind fun a3 =>
  (zHv a3).bind fun ex1 =>
  (need (ex1 == 0)).bind fun _ =>
  (qmul 4503599627370496 adj).bind fun mn =>
  (need (!(qgt mn 9218868437227405311))).bind fun _ =>
  (need (zBq mn)).bind fun _ =>
  (need (!(qeq 0 mn))).bind fun _ =>
  (need (!(qgt 0 mn))).bind fun _ =>
  (qsub 4746794007244308480 off).bind fun c1 =>
  (qdiv c1 mult).bind fun c2 =>
  (qsub c2 4607182418800017408).bind fun c3 =>
  (zHv c3).bind fun ex2 =>
  (need (ex2 == 9218868437227405312)).bind fun _ =>
  (expQ 4649451482093607557).bind fun ex3 =>
  (qmul 4611686018427387904 adj).bind fun d1 =>
  (qdiv ex3 d1).bind fun d2 =>
  (qadd adj 4607182418800017408).bind fun d3 =>
  (qmul d2 d3).bind fun mx =>
  (need (!(qgt (qneg mx) 9218868437227405311))).bind fun _ =>
  (need (zBq mx)).bind fun _ =>
  (need (!(qlt 9218868437227405312 mx))).bind fun _ =>
  some (mult,mn,mx)
theorem zUG (g:Nat) (off:Nat):zG9 g off=zKg g off:=by
  unfold zG9 zKg
  simp only [zBE,zBZ,zBu,zCG,zCh,zEu,zFy,zNH,zCE,zKi,zJw,zJg,zT6]
def zKh (g:Nat) (off:Nat):Option (Nat × Nat × Nat) :=
  (need (!(qle g 4607182418800017408))).bind fun _ =>
  (zM2 g).bind fun l =>
  (qdiv 4607182418800017408 l).bind fun mult =>
  (powQ g 4607226943766636671).bind fun adj =>
  (qsub 13970166044103278592 off).bind fun a1 =>
  (qdiv a1 mult).bind fun a2 =>
  (qadd a2 4607182418800017408).bind fun a3 =>
  (zHv a3).bind fun ex1 =>
  (need (ex1 == 0)).bind fun _ =>
  (qmul 4503599627370496 adj).bind fun mn =>
  (need (!(qgt mn 9218868437227405311))).bind fun _ =>
  (need (zBq mn)).bind fun _ =>
  (need (!(qeq 0 mn))).bind fun _ =>
  (need (!(qgt 0 mn))).bind fun _ =>
  (qsub 4746794007244308480 off).bind fun c1 =>
  (qdiv c1 mult).bind fun c2 =>
  (qsub c2 4607182418800017408).bind fun c3 =>
  (zHv c3).bind fun ex2 =>
  (need (ex2 == 9218868437227405312)).bind fun _ =>
  (expQ 4649451482093607557).bind fun ex3 =>
  (qmul 4611686018427387904 adj).bind fun d1 =>
  (qdiv ex3 d1).bind fun d2 =>
  (qadd adj 4607182418800017408).bind fun d3 =>
  (qmul d2 d3).bind fun mx =>
  (need (!(qgt (qneg mx) 9218868437227405311))).bind fun _ =>
  (need (zBq mx)).bind fun _ =>
  (need (!(qlt 9218868437227405312 mx))).bind fun _ =>
  some (mult,mn,mx)
theorem zUH (g:Nat) (off:Nat):zHA g off=zKh g off:=by
  unfold zHA zKh
  simp only [zBE,zBZ,zBu,zCG,zCh,zEu,zFy,zNH,zCE,zKi,zJw,zJg,zT6]
def zN3 (a:Nat):Option (Nat × Nat × Nat × Nat × Nat) :=
  (need (!(qle a 0))).bind fun _ =>
  (need (!(qge a 4607182418800017408))).bind fun _ =>
  (qadd 4607182418800017408 a).bind fun n =>
  (qsub 4607182418800017408 a).bind fun d =>
  (qdiv n d).bind fun g =>
  (some (0)).bind fun off =>
  (zKf g 0).bind fun ⟨mult,mn,mx⟩ =>
  some (g,off,mult,mn,mx)
theorem zR5 (a:Nat):zGC a=zN3 a:=by
  unfold zGC zN3
  simp only [zBE,zBZ,zCG,zNH,zQn,zUF]
def zN4 (a:Nat):Option (Nat × Nat × Nat × Nat × Nat) :=
  (need (!(qle a 0))).bind fun _ =>
  (need (!(qge a 4607182418800017408))).bind fun _ =>
  (qadd 4607182418800017408 a).bind fun n =>
  (qsub 4607182418800017408 a).bind fun d =>
  (qdiv n d).bind fun b =>
  (powQ b 4604418534313441775).bind fun g =>
  (zM2 g).bind fun l =>
  (qdiv 4607182418800017408 l).bind fun off =>
  (zKg g off).bind fun ⟨mult,mn,mx⟩ =>
  some (g,off,mult,mn,mx)
theorem zR7 (a:Nat):zGD a=zN4 a:=by
  unfold zGD zN4
  simp only [zBE,zBZ,zCG,zNH,zQn,zJg,zT6,zUG]
def zN5 (a:Nat):Option (Nat × Nat × Nat × Nat × Nat) :=
  (need (!(qle a 0))).bind fun _ =>
  (need (!(qge a 4607182418800017408))).bind fun _ =>
  (qadd 4607182418800017408 a).bind fun n =>
  (qsub 4607182418800017408 a).bind fun d =>
  (qdiv n d).bind fun b =>
  (powQ b 4607094240642655501).bind fun g =>
  (some (0)).bind fun off =>
  (zKh g 0).bind fun ⟨mult,mn,mx⟩ =>
  some (g,off,mult,mn,mx)
theorem zR9 (a:Nat):zGE a=zN5 a:=by
  unfold zGE zN5
  simp only [zBE,zBZ,zCG,zNH,zQn,zT6,zUH]
def zAM (off mult v:Nat):Option Int :=
  (logQ v).bind fun l=>(qmul l mult).bind fun a=>(qadd a off).bind fun x=>zHV x
theorem zUh (off mult v:Nat):zCv off mult v=zAM off mult v:=by
  unfold zCv zAM
  simp only [zBE,zBu,zIy,zQV]
def zAF (off mult:Nat) (i:Int):Option Nat :=
  (qsub (qi2f i) off).bind fun d=>(qdiv d mult).bind fun x=>expQ x
theorem zPN (off mult:Nat) (i:Int):zCY off mult i=zAF off mult i:=by
  unfold zCY zAF
  simp only [zBZ,zCG,zIv,zJw]
def zNa (g:Nat):Option Nat :=
  (qadd 4607182418800017408 g).bind fun a=>(qdiv 4611686018427387904 a).bind fun b=>qsub 4607182418800017408 b
theorem zU5 (g:Nat):zEK g=zNa g:=by
  unfold zEK zNa
  simp only [zBE,zBZ,zCG]
def zAJ (off mult v:Nat):Option Int :=
  (zMz v).bind fun l=>(qmul l mult).bind fun a=>(qadd a off).bind fun x=>zHV x
theorem zUi (off mult v:Nat):zCw off mult v=zAJ off mult v:=by
  unfold zCw zAJ
  simp only [zBE,zBu,zIy,zUS]
def zAC (off mult:Nat) (i:Int):Option Nat :=
  (qsub (qi2f i) off).bind fun d=>(qdiv d mult).bind fun x=>zM8 x
theorem zPO (off mult:Nat) (i:Int):zCZ off mult i=zAC off mult i:=by
  unfold zCZ zAC
  simp only [zBZ,zCG,zIv,zUd]
def zNb (g:Nat):Option Nat :=
  (zM2 g).bind fun l=>(expQ l).bind fun e0=>(qadd 4607182418800017408 e0).bind fun a=>(qdiv 4611686018427387904 a).bind fun b=>qsub 4607182418800017408 b
theorem zU6 (g:Nat):zEL g=zNb g:=by
  unfold zEL zNb
  simp only [zBE,zBZ,zCG,zJw,zJg]
def zAN (off mult v:Nat):Option Int :=
  (zM1 v).bind fun l=>(qmul l mult).bind fun a=>(qadd a off).bind fun x=>zHV x
theorem zUj (off mult v:Nat):zCx off mult v=zAN off mult v:=by
  unfold zCx zAN
  simp only [zBE,zBu,zIy,zUT]
def zAG (off mult:Nat) (i:Int):Option Nat :=
  (qsub (qi2f i) off).bind fun d=>(qdiv d mult).bind fun x=>zM9 x
theorem zPP (off mult:Nat) (i:Int):zCa off mult i=zAG off mult i:=by
  unfold zCa zAG
  simp only [zBZ,zCG,zIv,zUe]
def zNc (g:Nat):Option Nat :=
  (zM2 g).bind fun l=>(qmul 4604480259023595110 l).bind fun q=>(expQ q).bind fun e0=>(qadd 4607182418800017408 e0).bind fun a=>(qdiv 4611686018427387904 a).bind fun b=>qsub 4607182418800017408 b
theorem zU7 (g:Nat):zEM g=zNc g:=by
  unfold zEM zNc
  simp only [zBE,zBZ,zBu,zCG,zJw,zJg]
end Go.Proofs.YtllaekopaglolaaGreat
end
/-
  Closed looks at the borders between indices: what is looked at,and what it tells.
-/
section
namespace Go.Proofs.YtllaekopaglolaaGreat
open Go.RowKit
open Ieee
set_option exponentiation.threshold 5000
def leS (c x d y:Nat):Bool :=
  wn (Nat.div x 4503599627370496) fun E=>wn (Nat.div y 4503599627370496) fun F =>
  wn (Nat.mul c (Nat.add 4503599627370496 (Nat.mod x 4503599627370496))) fun m=>wn (Nat.mul d (Nat.add 4503599627370496 (Nat.mod y 4503599627370496))) fun n =>
  bif Nat.ble F E then Nat.ble (Nat.shiftLeft m (Nat.sub E F)) n else Nat.ble m (Nat.shiftLeft n (Nat.sub F E))
def rvN (x:Nat):Nat:=(4503599627370496+x % 4503599627370496)*2^(x / 4503599627370496 - 1)
theorem zVy (Z c x d y:Nat):(bif Nat.ble (y / Z) (x / Z) then Nat.ble ((c*(Z+x % Z)) <<< (x / Z - y / Z)) (d*(Z+y % Z)) else Nat.ble (c*(Z+x % Z)) ((d*(Z+y % Z)) <<< (y / Z - x / Z)))=true →
    1≤x / Z→1≤y / Z→c*((Z+x % Z)*2^(x / Z - 1))≤d*((Z+y % Z)*2^(y / Z - 1)):=by
  intro h h1 h2
  generalize x / Z=E at *
  generalize y / Z=F at *
  rw [← Nat.mul_assoc,← Nat.mul_assoc]
  generalize c*(Z+x % Z)=m at *
  generalize d*(Z+y % Z)=n at *
  cases hb:Nat.ble F E
  · rw [hb,cond_false] at h
    have h:=Nat.le_of_ble_eq_true h
    have hlt:¬ F≤E:=fun hc=>by rw [Nat.ble_eq_true_of_le hc] at hb; cases hb
    rw [Nat.shiftLeft_eq] at h
    have e:2^(F - 1)=2^(F - E)*2^(E - 1):=by rw [← Nat.pow_add]; congr 1; omega
    rw [e,← Nat.mul_assoc]
    exact Nat.mul_le_mul_right _ h
  · rw [hb,cond_true] at h
    have h:=Nat.le_of_ble_eq_true h
    have hle:=Nat.le_of_ble_eq_true hb
    rw [Nat.shiftLeft_eq] at h
    have e:2^(E - 1)=2^(E - F)*2^(F - 1):=by rw [← Nat.pow_add]; congr 1; omega
    rw [e,← Nat.mul_assoc]
    exact Nat.mul_le_mul_right _ h
theorem zVQ {c x d y:Nat} (hx:posB x=true) (hy:posB y=true) (h:leS c x d y=true):c*rvN x≤d*rvN y:=by
  obtain ⟨a,_⟩:=zCN hx
  obtain ⟨b,_⟩:=zCN hy
  unfold leS at h
  rw [zAq,zAq,zAq,zAq] at h
  exact zVy 4503599627370496 c x d y h (by omega) (by omega)
def zVu (i:Int):Int:=match i with | .ofNat n=>wn (Nat.succ n) .ofNat | .negSucc 0=>.ofNat 0 | .negSucc (n+1)=>wn n .negSucc
theorem zUC (i:Int):zVu i=i+1:=by
  unfold zVu
  match i with
  | .ofNat n=>show wn n.succ Int.ofNat=_; rw [zAq]; rfl
  | .negSucc 0=>rfl
  | .negSucc (n+1)=>show wn n Int.negSucc=_; rw [zAq]; omega
def ltI (o:Option Int) (i:Int):Bool:=match o with | some j=>decide (j<i) | none=>false
def geI (o:Option Int) (i:Int):Bool:=match o with | some j=>decide (i≤j) | none=>false
def zSN (p b b' V:Nat):Bool :=
  Nat.ble 4499096027743125568 b&&(Nat.ble b 4715268809856909248&&Nat.ble b' 4715268809856909248)&&(posB V&&(posB (Nat.sub b 64)&&(posB (Nat.add b' 64)&&(leS 1000000000000 V (Nat.add 1000000000000 (Nat.mul p 10000000001)) (Nat.sub b 64)&&leS (Nat.sub 1000000000000 (Nat.mul p 10000000001)) (Nat.add b' 64) 1000000000000 V))))
def zWc (i:Int) (f:Int→Bool):Bool:=match i with | .ofNat n=>wn n fun n=>f (.ofNat n) | .negSucc n=>wn n fun n=>f (.negSucc n)
theorem zTf (i:Int) (f:Int→Bool):zWc i f=f i:=by
  cases i with
  | ofNat n=>show wn n (fun n=>f (.ofNat n))=_; rw [zAq]
  | negSucc n=>show wn n (fun n=>f (.negSucc n))=_; rw [zAq]
def zUQ (lower:Int→Option Nat) (look:Nat→Int→Nat→Bool) (rb p:Nat):Nat→Nat→Int→Nat→Bool
  | 0,_,_,_=>true
  | n+1,dat,i,b =>
    zWc (zVu i) fun i' =>
    match lower i' with
    | some b'=>wn b' fun b' =>
      (match qmul b rb with | some V=>wn V fun V=>zSN p b b' V | none=>false)&&(look (Nat.mod dat 128) i b&&wn (Nat.div dat 128) fun dat=>zUQ lower look rb p n dat i' b')
    | none=>false
def zHx (lower:Int→Option Nat) (look:Nat→Int→Nat→Bool) (rb p:Nat) (i:Int):Prop :=
  ∃ b b' V d,lower i=some b∧lower (i+1)=some b'∧qmul b rb=some V∧zSN p b b' V=true∧look d i b=true∧d<128
theorem zUP {lower:Int→Option Nat} {look:Nat→Int→Nat→Bool} {rb p:Nat} (n:Nat):∀ {dat:Nat} {i:Int} {b:Nat},lower i=some b→zUQ lower look rb p n dat i b=true→∀ j:Nat,j<n→zHx lower look rb p (i+j):=by
  induction n with
  | zero=>intro dat i b _ _ j hj; omega
  | succ n ih =>
    intro dat i b hb h j hj
    unfold zUQ at h
    rw [zTf,zUC] at h
    cases hl:lower (i+1) with
    | none=>rw [hl] at h; cases h
    | some b' =>
      rw [hl] at h
      dsimp only at h
      rw [zAq,Bool.and_eq_true,Bool.and_eq_true,zAq] at h
      obtain ⟨h1,h2,h3⟩:=h
      cases hq:qmul b rb with
      | none=>rw [hq] at h1; cases h1
      | some V =>
        rw [hq] at h1
        dsimp only at h1
        rw [zAq] at h1
        by_cases hj0:j=0
        · subst hj0
          rw [show i+((0:Nat):Int)=i from by omega]
          exact ⟨b,b',V,_,hb,hl,hq,h1,h2,Nat.mod_lt _ (by decide)⟩
        · have:=ih hl h3 (j - 1) (by omega)
          have e:i+1+((j - 1:Nat):Int)=i+(j:Int):=by omega
          rwa [e] at this
def zAB (lower:Int→Option Nat) (look:Nat→Int→Nat→Bool) (rb p n dat:Nat) (i:Int):Bool :=
  match lower i with
  | some b=>wn b fun b=>zUQ lower look rb p n dat i b
  | none=>false
theorem zTD {lower:Int→Option Nat} {look:Nat→Int→Nat→Bool} {rb p n dat:Nat} {i:Int} (h:zAB lower look rb p n dat i=true) (j:Nat) (hj:j<n):zHx lower look rb p (i+j):=by
  unfold zAB at h
  cases hl:lower i with
  | none=>rw [hl] at h; cases h
  | some b =>
    rw [hl] at h
    dsimp only at h
    rw [zAq] at h
    exact zUP n hl h j hj
def zAL (idx:Nat→Option Int) (_d:Nat) (i:Int) (b:Nat):Bool:=wn (Nat.sub b 64) (fun c=>ltI (idx c) i)&&wn (Nat.add b 64) (fun c=>geI (idx c) i)
def zAk (idx:Nat→Option Int) (d:Nat) (i:Int) (b:Nat):Bool :=
  wn (Nat.sub (Nat.add b d) 64) fun t =>
  wn (Nat.sub t 4) (fun c=>ltI (idx c) i)&&(wn (Nat.sub t 3) (fun c=>ltI (idx c) i)&&(wn (Nat.sub t 2) (fun c=>ltI (idx c) i)&&(wn (Nat.sub t 1) (fun c=>ltI (idx c) i) &&
  (geI (idx t) i&&(wn (Nat.add t 1) (fun c=>geI (idx c) i)&&(wn (Nat.add t 2) (fun c=>geI (idx c) i)&&wn (Nat.add t 3) (fun c=>geI (idx c) i)))))))
end Go.Proofs.YtllaekopaglolaaGreat
end
/-
  From the looks to all floats: where a float of an index lies.
-/
section
namespace Go.Proofs.YtllaekopaglolaaGreat
open Go.RowKit
open Ieee
theorem zEV {p b b' V:Nat} (h:zSN p b b' V=true):4499096027743125568≤b∧(b≤4715268809856909248∧b'≤4715268809856909248)∧posB V=true∧posB (b - 64)=true∧posB (b'+64)=true ∧
    1000000000000*rvN V≤(1000000000000+p*10000000001)*rvN (b - 64)∧(1000000000000 - p*10000000001)*rvN (b'+64)≤1000000000000*rvN V:=by
  unfold zSN at h
  simp only [Bool.and_eq_true] at h
  obtain ⟨⟨h1,h2,h8⟩,h3,h4,h5,h6,h7⟩:=h
  exact ⟨Nat.le_of_ble_eq_true h1,⟨Nat.le_of_ble_eq_true h2,Nat.le_of_ble_eq_true h8⟩,h3,h4,h5,zVQ h3 h4 h6,zVQ h5 h3 h7⟩
theorem zSM {o:Option Int} {i:Int} (h:ltI o i=true):∃ j,o=some j∧j<i:=by
  unfold ltI at h
  cases o with
  | none=>cases h
  | some j=>exact ⟨j,rfl,of_decide_eq_true h⟩
theorem zSg {o:Option Int} {i:Int} (h:geI o i=true):∃ j,o=some j∧i≤j:=by
  unfold geI at h
  cases o with
  | none=>cases h
  | some j=>exact ⟨j,rfl,of_decide_eq_true h⟩
def Lies (idx:Nat→Option Int) (lower:Int→Option Nat) (rb p v:Nat):Prop :=
  ∃ i b b' V,idx v=some i∧lower i=some b∧lower (i+1)=some b'∧qmul b rb=some V∧zSN p b b' V=true∧b≤v+64∧v≤b'+64
theorem zSS {idx:Nat→Option Int} {lower:Int→Option Nat} {rb p lo hi:Nat} {i0 i1:Int}
    (mono:∀ x y,4499096027743125504≤x→x≤y→y≤4715268809856909312→∃ i j,idx x=some i∧idx y=some j∧i≤j)
    (fact:∀ i,i0≤i→i≤i1+1→zHx lower (zAL idx) rb p i) (h0:idx lo=some i0) (h1:idx hi=some i1) (hlo:4499096027743125504≤lo) (hhi:hi≤4715268809856909312)
    {v:Nat} (v0:lo≤v) (v1:v≤hi):Lies idx lower rb p v:=by
  obtain ⟨a,i,ea,ei,l1⟩:=mono lo v hlo v0 (by omega)
  obtain ⟨i',c,ei',ec,l2⟩:=mono v hi (by omega) v1 hhi
  rw [h0] at ea; cases ea
  rw [h1] at ec; cases ec
  rw [ei] at ei'; cases ei'
  obtain ⟨b,b',V,d,f1,f2,f3,f4,f5,-⟩:=fact i l1 (by omega)
  obtain ⟨c1,c1',V1,d1,g1,g2,g3,g4,g5,-⟩:=fact (i+1) (by omega) (by omega)
  rw [f2] at g1; cases g1
  obtain ⟨r1,⟨r3,r2⟩,-⟩:=zEV f4
  obtain ⟨s1,⟨s3,s2⟩,-⟩:=zEV g4
  unfold zAL at f5 g5
  rw [Bool.and_eq_true,zAq,zAq] at f5 g5
  obtain ⟨j,ej,hj⟩:=zSM f5.1
  obtain ⟨k,ek,hk⟩:=zSg g5.2
  refine ⟨i,b,b',V,ei,f1,f2,f3,f4,?_,?_⟩
  · refine Nat.le_of_not_lt fun hc=>?_
    obtain ⟨x,y,ex,ey,hxy⟩:=mono v (Nat.sub b 64) (by omega) (by show v≤b - 64; omega) (by show b - 64≤_; omega)
    rw [ei] at ex; cases ex
    rw [ej] at ey; cases ey
    omega
  · refine Nat.le_of_not_lt fun hc=>?_
    obtain ⟨x,y,ex,ey,hxy⟩:=mono (Nat.add b' 64) v (by show _≤b'+64; omega) (by show b'+64≤v; omega) (by omega)
    rw [ek] at ex; cases ex
    rw [ei] at ey; cases ey
    omega
theorem zF0 {idx:Nat→Option Int} {i:Int} {b d:Nat}
    (step:∀ x y,4499096027743125504≤x→x+4≤y→y≤4715268809856909312→∃ i j,idx x=some i∧idx y=some j∧i≤j)
    (hb1:4499096027743125568≤b) (hb2:b≤4715268809856909248) (hd:d<128) (h:zAk idx d i b=true) {v:Nat} {j:Int} (v0:4499096027743125504≤v) (v1:v≤4715268809856909312) (hv:idx v=some j) :
    (i≤j↔b+d - 64≤v):=by
  unfold zAk at h
  simp only [Bool.and_eq_true,zAq] at h
  obtain ⟨h4,h3,h2,h1,g0,g1,g2,g3⟩:=h
  have hT:Nat.sub (Nat.add b d) 64=b+d - 64:=rfl
  rw [hT] at h4 h3 h2 h1 g0 g1 g2 g3
  obtain ⟨T,hTT⟩:∃ T,T=b+d - 64:=⟨_,rfl⟩
  rw [← hTT] at h4 h3 h2 h1 g0 g1 g2 g3 ⊢
  have lt:∀ k,1≤k→k≤4→ltI (idx (T - k)) i=true:=fun k h1' h2'=>by
    match k,h1',h2' with
    | 1,_,_=>exact h1
    | 2,_,_=>exact h2
    | 3,_,_=>exact h3
    | 4,_,_=>exact h4
  have ge:∀ k,k<4→geI (idx (T+k)) i=true:=fun k h2'=>by
    match k,h2' with
    | 0,_=>exact g0
    | 1,_=>exact g1
    | 2,_=>exact g2
    | 3,_=>exact g3
  constructor
  · intro hij
    refine Nat.le_of_not_lt fun hc=>?_
    by_cases hn:T≤v+4
    · obtain ⟨x,ex,hx⟩:=zSM (lt (T - v) (by omega) (by omega))
      rw [show T - (T - v)=v from by omega,hv] at ex
      cases ex
      omega
    · obtain ⟨x,ex,hx⟩:=zSM (lt 1 (by omega) (by omega))
      obtain ⟨p,q,ep,eq,hpq⟩:=step v (T - 1) v0 (by omega) (by omega)
      rw [hv] at ep; cases ep
      rw [ex] at eq; cases eq
      omega
  · intro hTv
    by_cases hn:v<T+4
    · obtain ⟨x,ex,hx⟩:=zSg (ge (v - T) (by omega))
      rw [show T+(v - T)=v from by omega,hv] at ex
      cases ex
      omega
    · obtain ⟨x,ex,hx⟩:=zSg (ge 0 (by omega))
      rw [Nat.add_zero] at ex
      obtain ⟨p,q,ep,eq,hpq⟩:=step T v (by omega) (by omega) v1
      rw [ex] at ep; cases ep
      rw [hv] at eq; cases eq
      omega
theorem zIq {idx:Nat→Option Int} {lower:Int→Option Nat} {rb p lo hi:Nat} {i0 i1:Int}
    (step:∀ x y,4499096027743125504≤x→x+4≤y→y≤4715268809856909312→∃ i j,idx x=some i∧idx y=some j∧i≤j)
    (tot:∀ x,4499096027743125504≤x→x≤4715268809856909312→∃ i,idx x=some i)
    (fact:∀ i,i0≤i→i≤i1+1→zHx lower (zAk idx) rb p i) (h01:i0≤i1) (h0:idx lo=some i0) (h1:idx hi=some i1) (hlo:4499096027743125504≤lo) (hhi:hi≤4715268809856909312) (hlh:lo≤hi)
    {v w:Nat} (v0:lo≤v) (vw:v≤w) (w1:w≤hi):Lies idx lower rb p v∧Lies idx lower rb p w∧∃ i j,idx v=some i∧idx w=some j∧i≤j:=by
  have bord:∀ i,i0≤i→i≤i1+1→∃ T,∀ u j,4499096027743125504≤u→u≤4715268809856909312→idx u=some j→(i≤j↔T≤u):=fun i a b=>by
    obtain ⟨b,b',V,d,f1,f2,f3,f4,f5,f6⟩:=fact i a b
    obtain ⟨r1,⟨r3,r2⟩,-⟩:=zEV f4
    exact ⟨b+d - 64,fun u j u0 u1 hu=>zF0 step r1 r3 f6 f5 u0 u1 hu⟩
  have rng:∀ u,lo≤u→u≤hi→∃ i,idx u=some i∧i0≤i∧i≤i1:=fun u u0 u1=>by
    obtain ⟨i,hi'⟩:=tot u (by omega) (by omega)
    obtain ⟨T0,hT0⟩:=bord i0 (by omega) (by omega)
    obtain ⟨T1,hT1⟩:=bord (i1+1) (by omega) (by omega)
    have a1:=hT0 lo i0 hlo (by omega) h0
    have a2:=hT0 u i (by omega) (by omega) hi'
    have a3:=hT1 hi i1 (by omega) hhi h1
    have a4:=hT1 u i (by omega) (by omega) hi'
    exact ⟨i,hi',by omega,by omega⟩
  have lies:∀ u,lo≤u→u≤hi→Lies idx lower rb p u:=fun u u0 u1=>by
    obtain ⟨i,ei,l1,l2⟩:=rng u u0 u1
    obtain ⟨b,b',V,d,f1,f2,f3,f4,f5,f6⟩:=fact i l1 (by omega)
    obtain ⟨c,c',V',d',g1,g2,g3,g4,g5,g6⟩:=fact (i+1) (by omega) (by omega)
    rw [f2] at g1; cases g1
    obtain ⟨r1,⟨r3,r2⟩,-⟩:=zEV f4
    obtain ⟨s1,⟨s3,s2⟩,-⟩:=zEV g4
    have a:=(zF0 step r1 r3 f6 f5 (by omega) (by omega) ei).1 (Int.le_refl _)
    have a':=zF0 step s1 s3 g6 g5 (by omega) (by omega) ei
    refine ⟨i,b,b',V,ei,f1,f2,f3,f4,by omega,?_⟩
    refine Nat.le_of_not_lt fun hc=>?_
    have:=a'.2 (by omega)
    omega
  obtain ⟨i,ei,l1,l2⟩:=rng v v0 (by omega)
  obtain ⟨j,ej,m1,m2⟩:=rng w (by omega) w1
  obtain ⟨T,hT⟩:=bord i l1 (by omega)
  have a:=hT v i (by omega) (by omega) ei
  have a':=hT w j (by omega) (by omega) ej
  exact ⟨lies v v0 (by omega),lies w (by omega) w1,i,j,ei,ej,by omega⟩
end Go.Proofs.YtllaekopaglolaaGreat
end
/-
  Floats by their values as fractions: how far a rounded number lies from the exact one; rounding keeps the order.
-/
section
namespace Go.Proofs.YtllaekopaglolaaGreat
open Ieee
set_option exponentiation.threshold 5000
theorem zGy (t:Nat) {n n':Nat} (h:n≤n'):rndT t n≤rndT t n':=by
  by_cases hn:n=0
  · subst hn; rw [zCW]; exact Nat.zero_le _
  have hn':n'≠0:=by omega
  rw [zDd,zDd,zDl,zDl]
  have hl:n.log2≤n'.log2:=by
    refine (Nat.le_log2 hn').2 (Nat.le_trans (Nat.log2_self_le hn) h)
  obtain ⟨d,hd⟩:∃ d,d=max (n.log2 - 52) t:=⟨_,rfl⟩
  obtain ⟨d',hd'⟩:∃ d,d=max (n'.log2 - 52) t:=⟨_,rfl⟩
  rw [← hd,← hd']
  by_cases he:d=d'
  · subst he
    exact Nat.mul_le_mul_right _ (zEP _ (Nat.two_pow_pos _) h)
  · have hlt:d<d':=by omega
    have h1:n<2^(53+d):=(Nat.log2_lt hn).1 (by omega)
    have a1:=zEP (2^d) (Nat.two_pow_pos d) (Nat.le_of_lt h1)
    rw [Nat.pow_add,zBe] at a1
    have h2:2^(52+d')≤n':=(Nat.le_log2 hn').1 (by omega)
    have a2:=zEP (2^d') (Nat.two_pow_pos d') h2
    rw [Nat.pow_add,zBe] at a2
    have b1:rhe n (2^d)*2^(d - t)≤2^53*2^(d - t):=Nat.mul_le_mul_right _ a1
    have b2:2^52*2^(d' - t)≤rhe n' (2^d')*2^(d' - t):=Nat.mul_le_mul_right _ a2
    have b3:2^53*2^(d - t)≤2^52*2^(d' - t):=by
      rw [← Nat.pow_add,← Nat.pow_add]
      exact Nat.pow_le_pow_right (by omega) (by omega)
    exact Nat.le_trans b1 (Nat.le_trans b3 b2)
theorem zAj (t n:Nat):rndI t (n:Int)=(rndT t n:Int):=rfl
theorem zDe (t:Nat) (n:Nat):rndI t (-(n:Int)) = -(rndT t n:Int):=by
  have:=zEl t true n
  simpa using this
theorem zCX (t:Nat) {a b:Int} (h:a≤b):rndI t a≤rndI t b:=by
  rcases Int.le_total 0 a with ha | ha
  · obtain ⟨n,rfl⟩:=Int.eq_ofNat_of_zero_le ha
    obtain ⟨m,rfl⟩:=Int.eq_ofNat_of_zero_le (Int.le_trans ha h)
    rw [zAj,zAj]
    have:=zGy t (show n≤m by omega)
    omega
  · obtain ⟨n,hn⟩:=Int.eq_ofNat_of_zero_le (show 0 ≤ -a by omega)
    have hn':a = -(n:Int):=by omega
    subst hn'
    rw [zDe]
    rcases Int.le_total 0 b with hb | hb
    · obtain ⟨m,rfl⟩:=Int.eq_ofNat_of_zero_le hb
      rw [zAj]; omega
    · obtain ⟨m,hm⟩:=Int.eq_ofNat_of_zero_le (show 0 ≤ -b by omega)
      have hm':b = -(m:Int):=by omega
      subst hm'
      rw [zDe]
      have:=zGy t (show m≤n by omega)
      omega
theorem zTy (N G:Nat) (hG:0<G):2*(rhe N G*G)≤2*N+G∧2*N≤2*(rhe N G*G)+G:=by
  obtain ⟨Q,r,h,hr,e⟩:=zD8 N G hG
  rw [e,h]
  split
  · constructor <;> omega
  · rw [Nat.add_mul,Nat.one_mul]
    constructor <;> omega
theorem zD7 (t n k:Nat) (hn:n<2^(k+53)) (hk:t≤k):2*(rndT t n*2^t)≤2*n+2^k∧2*n≤2*(rndT t n*2^t)+2^k:=by
  rw [zDd,Nat.mul_assoc,← Nat.pow_add]
  have hlk:lack t n≤k:=by
    rw [zDl]
    by_cases h0:n=0
    · subst h0; simp; omega
    · have:=(Nat.log2_lt h0).2 hn
      omega
  have htl:t≤lack t n:=by rw [zDl]; omega
  rw [show lack t n - t+t=lack t n from by omega]
  have h1:=zTy n (2^lack t n) (Nat.two_pow_pos _)
  have h2:2^lack t n≤2^k:=Nat.pow_le_pow_right (by omega) hlk
  omega
theorem zJQ (t:Nat) (a:Int) (k:Nat) (ha:a.natAbs<2^(k+53)) (hk:t≤k):2*(rndI t a*2^t)≤2*a+2^k∧2*a≤2*(rndI t a*2^t)+2^k:=by
  have e:∀ j:Nat,(2:Int)^j=((2^j:Nat):Int):=fun j=>by rw [Int.natCast_pow]; rfl
  rcases Int.le_total 0 a with h | h
  · obtain ⟨n,rfl⟩:=Int.eq_ofNat_of_zero_le h
    have:=zD7 t n k (by simpa using ha) hk
    rw [zAj,e,e,← Int.natCast_mul]
    generalize rndT t n*2^t=R at *
    generalize 2^k=P at *
    omega
  · obtain ⟨n,hn⟩:=Int.eq_ofNat_of_zero_le (show 0 ≤ -a by omega)
    have hn':a = -(n:Int):=by omega
    subst hn'
    have:=zD7 t n k (by simpa using ha) hk
    rw [zDe,e,e,Int.neg_mul,← Int.natCast_mul]
    generalize rndT t n*2^t=R at *
    generalize 2^k=P at *
    omega
end Go.Proofs.YtllaekopaglolaaGreat
end
/-
  The float operations in fractions: each result within half a last place of the exact one.
-/
section
namespace Go.Proofs.YtllaekopaglolaaGreat
open Ieee
set_option exponentiation.threshold 5000
theorem zNi:(0:Rat)<((2^1074:Nat):Rat):=Rat.natCast_pos.2 (Nat.two_pow_pos _)
def uw:Rat:=((2^1074:Nat):Rat)⁻¹
theorem zGo:0<uw:=Rat.inv_pos.2 zNi
theorem zGp (t:Nat) (ht:t=1074):((2^t:Nat):Rat)*uw=1:=by
  subst ht
  exact Rat.mul_inv_cancel _ (fun h=>by have:=zNi; rw [h] at this; exact absurd this (by decide))
attribute [irreducible] uw
def qv (a:Int):Rat:=(a:Rat)*uw
theorem zA8 (a b:Int):qv (a+b)=qv a+qv b:=by unfold qv; rw [Rat.intCast_add]; grind
theorem zNt (a b:Int):qv (a - b)=qv a - qv b:=by unfold qv; rw [Rat.intCast_sub]; grind
theorem zCr (a:Int):qv (-a) = - qv a:=by unfold qv; rw [Rat.intCast_neg]; grind
theorem zA9 {a b:Int} (h:a≤b):qv a≤qv b:=by
  unfold qv
  exact Rat.mul_le_mul_of_nonneg_right (Rat.intCast_le_intCast.2 h) (by have:=zGo; grind)
theorem zVl {a b:Int} (h:a<b):qv a<qv b:=by
  unfold qv
  exact Rat.mul_lt_mul_of_pos_right (Rat.intCast_lt_intCast.2 h) zGo
theorem zGf {a b:Int} (h:qv a≤qv b):a≤b:=by
  refine Int.le_of_not_gt fun hc=>?_
  have:=zVl hc
  grind
theorem zEU {a b:Int} (h:qv a<qv b):a<b:=by
  refine Int.lt_of_not_ge fun hc=>?_
  have:=zA9 hc
  grind
def BB (K:Nat):Rat:=((2^(K+53):Nat):Rat)*uw
theorem zJG (K:Nat):BB (K+1)=2*BB K:=by
  unfold BB
  rw [show K+1+53=(K+53)+1 from by omega,Nat.pow_succ,Rat.natCast_mul]
  grind
theorem zOr (K:Nat) (hK:K=1021):BB K=1:=by
  unfold BB
  exact zGp (K+53) (by omega)
theorem zXY (K:Nat):0<BB K:=by
  unfold BB
  exact Rat.mul_pos (Rat.natCast_pos.2 (Nat.two_pow_pos _)) zGo
theorem zH7 {a:Int} {K:Nat} (h1:-(BB K)<qv a) (h2:qv a<BB K):a.natAbs<2^(K+53):=by
  have e:BB K=qv ((2^(K+53):Nat):Int):=by unfold BB qv; rw [Rat.intCast_natCast]
  rw [e] at h1 h2
  rw [← zCr] at h1
  have b1:=zEU h1
  have b2:=zEU h2
  generalize 2^(K+53)=P at *
  omega
theorem zRs (K:Nat):((2^K:Nat):Rat)*uw=BB K / 9007199254740992:=by
  unfold BB
  rw [Nat.pow_add,Rat.natCast_mul]
  have:((2^53:Nat):Rat)=9007199254740992:=by
    rw [show (2:Nat)^53=9007199254740992 from by decide]; rfl
  rw [this]
  grind
theorem zNs {a:Int} {K:Nat} (h1:-(BB K)<qv a) (h2:qv a<BB K):-(BB K / 18014398509481984)≤qv (rndI 0 a) - qv a∧qv (rndI 0 a) - qv a≤BB K / 18014398509481984:=by
  obtain ⟨c1,c2⟩:=zJQ 0 a K (zH7 h1 h2) (Nat.zero_le _)
  rw [Int.pow_zero,Int.mul_one] at c1 c2
  have d1:=zA9 c1
  have d2:=zA9 c2
  have e2:∀ x:Int,qv (2*x)=2*qv x:=fun x=>by unfold qv; rw [Rat.intCast_mul]; grind
  have eP:qv ((2:Int)^K)=BB K / 9007199254740992:=by
    rw [← zRs]; unfold qv
    rw [show (2:Int)^K=((2^K:Nat):Int) from by rw [Int.natCast_pow]; rfl,Rat.intCast_natCast]
  rw [zA8,e2,e2,eP] at d1 d2
  constructor <;> grind
theorem zVP (a b:Int):(a:Rat)*(b:Rat)*uw*uw=qv a*qv b:=by unfold qv; grind
theorem zTx {a b:Int} {K:Nat} (h1:-(BB K)<qv a*qv b) (h2:qv a*qv b<BB K):(a*b).natAbs<2^(1074+K+53) ∧ -(BB K / 18014398509481984)≤qv (rndI 1074 (a*b)) - qv a*qv b∧qv (rndI 1074 (a*b)) - qv a*qv b≤BB K / 18014398509481984:=by
  obtain ⟨T,hT⟩:∃ T,T=1074:=⟨_,rfl⟩
  have hT1:=zGp T hT
  rw [← hT]
  have hab:(a*b).natAbs<2^(T+K+53):=by
    have e:BB K=((2^(T+K+53):Nat):Rat)*uw*uw:=by
      unfold BB
      rw [show T+K+53=T+(K+53) from by omega,Nat.pow_add,Rat.natCast_mul]
      grind
    rw [e,← zVP] at h1 h2
    have up:=zGo
    have upp:=Rat.mul_pos up up
    rw [← Rat.intCast_mul] at h1 h2
    have k1:-(((2^(T+K+53):Nat):Rat))<((a*b:Int):Rat):=by
      refine Rat.not_le.1 fun hc=>?_
      have:=Rat.mul_le_mul_of_nonneg_right hc (by grind:(0:Rat)≤uw*uw)
      grind
    have k2:((a*b:Int):Rat)<((2^(T+K+53):Nat):Rat):=by
      refine Rat.not_le.1 fun hc=>?_
      have:=Rat.mul_le_mul_of_nonneg_right hc (by grind:(0:Rat)≤uw*uw)
      grind
    rw [← Rat.intCast_natCast] at k1 k2
    rw [← Rat.intCast_neg] at k1
    have l1:=Rat.intCast_lt_intCast.1 k1
    have l2:=Rat.intCast_lt_intCast.1 k2
    generalize 2^(T+K+53)=P at *
    omega
  refine ⟨hab,?_⟩
  obtain ⟨c1,c2⟩:=zJQ T (a*b) (T+K) hab (by omega)
  have up:=zGo
  have upp:(0:Rat)≤uw*uw:=by have:=Rat.mul_pos up up; grind
  have d1:=Rat.mul_le_mul_of_nonneg_right (Rat.intCast_le_intCast.2 c1) upp
  have d2:=Rat.mul_le_mul_of_nonneg_right (Rat.intCast_le_intCast.2 c2) upp
  have eT:∀ j:Nat,(2:Int)^j=((2^j:Nat):Int):=fun j=>by rw [Int.natCast_pow]; rfl
  rw [eT,eT,Nat.pow_add] at d1 d2
  simp only [Rat.intCast_add,Rat.intCast_mul,Rat.intCast_natCast,Rat.natCast_mul,Rat.intCast_ofNat] at d1 d2
  have e1:=zVP a b
  have e2:=zRs K
  have e3:qv (rndI T (a*b))=(rndI T (a*b):Rat)*uw:=rfl
  rw [e3]
  clear c1 c2 hab eT hT
  generalize (rndI T (a*b):Rat)=R at *
  generalize qv a*qv b=Q at *
  generalize ((2^T:Nat):Rat)=P at *
  generalize ((2^K:Nat):Rat)=P' at *
  generalize (a:Rat)=A at *
  generalize (b:Rat)=B at *
  have f1:2*(R*P)*(uw*uw)=2*(R*uw):=by grind
  have f2:(2*(A*B)+P*P')*(uw*uw)=2*Q+BB K / 9007199254740992:=by grind
  have f3:2*(A*B)*(uw*uw)=2*Q:=by grind
  have f4:(2*(R*P)+P*P')*(uw*uw)=2*(R*uw)+BB K / 9007199254740992:=by grind
  rw [f1,f2] at d1
  rw [f3,f4] at d2
  clear f1 f2 f3 f4 e1 e2
  generalize R*uw=S at *
  constructor <;> grind
end Go.Proofs.YtllaekopaglolaaGreat
end
