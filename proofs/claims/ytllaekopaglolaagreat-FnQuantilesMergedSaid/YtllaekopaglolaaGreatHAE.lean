/-
  Floats as (sign,mantissa,exponent),fit to be computed: sums,differences,products and quotients,each handed on; they tell what the floats do.
-/
import Derived.Test.YtllaekopaglolaaGreatHAD
import Derived.Test.YtllaekopaglolaaGreatHAC
import Derived.BigQuiet
section
namespace Go.Proofs.YtllaekopaglolaaGreat
open Ieee
set_option exponentiation.threshold 5000
def wn {α:Type} (n:Nat) (k:Nat→α):α:=Nat.rec (k 0) (fun m _=>k (Nat.succ m)) n
theorem zAq {α:Type} (n:Nat) (k:Nat→α):wn n k=k n:=by cases n <;> rfl
def bl (n k t:Nat):Nat:=bif Nat.beq (Nat.shiftRight n (Nat.add k t)) 0 then k else Nat.add k t
def lgS (n:Nat):Nat :=
  bif Nat.beq (Nat.shiftRight n 64) 0 then
    wn (bl n 0 32) fun k=>wn (bl n k 16) fun k=>wn (bl n k 8) fun k=>wn (bl n k 4) fun k=>wn (bl n k 2) fun k=>bl n k 1
  else Nat.log2 n
theorem zQ3 {n k t:Nat} (h1:n<2^(k+(t+t))) (h2:2^k≤n∨k=0):n<2^(bl n k t+t)∧(2^bl n k t≤n∨bl n k t=0):=by
  have hb:bl n k t=if n / 2^(k+t)=0 then k else k+t:=by
    show (bif Nat.beq (n >>> (k+t)) 0 then k else k+t)=_
    rw [Nat.shiftRight_eq_div_pow]
    by_cases h:n / 2^(k+t)=0
    · rw [if_pos h,h]; rfl
    · rw [if_neg h]
      cases hq:Nat.beq (n / 2^(k+t)) 0
      · rfl
      · exact absurd (Nat.eq_of_beq_eq_true hq) h
  rw [hb]
  split
  · rename_i h
    rcases Nat.div_eq_zero_iff.1 h with h | h
    · have:=Nat.two_pow_pos (k+t); omega
    · exact ⟨h,h2⟩
  · rename_i h
    refine ⟨by rwa [Nat.add_assoc],.inl ?_⟩
    refine Nat.le_of_not_lt fun hc=>h (Nat.div_eq_of_lt hc)
theorem zWw (n:Nat):lgS n=n.log2:=by
  unfold lgS
  cases hc:Nat.beq (Nat.shiftRight n 64) 0
  · rfl
  · have h64:n / 2^64=0:=by rw [← Nat.shiftRight_eq_div_pow]; exact Nat.eq_of_beq_eq_true hc
    have h0:n<2^(0+(32+32)):=by
      rcases Nat.div_eq_zero_iff.1 h64 with h | h
      · have:=Nat.two_pow_pos 64; omega
      · exact h
    rw [cond_true,zAq,zAq,zAq,zAq,zAq]
    obtain ⟨a1,b1⟩:=zQ3 (t:=32) h0 (.inr rfl)
    generalize bl n 0 32=k1 at *
    obtain ⟨a2,b2⟩:=zQ3 (t:=16) a1 b1
    generalize bl n k1 16=k2 at *
    obtain ⟨a3,b3⟩:=zQ3 (t:=8) a2 b2
    generalize bl n k2 8=k3 at *
    obtain ⟨a4,b4⟩:=zQ3 (t:=4) a3 b3
    generalize bl n k3 4=k4 at *
    obtain ⟨a5,b5⟩:=zQ3 (t:=2) a4 b4
    generalize bl n k4 2=k5 at *
    obtain ⟨a6,b6⟩:=zQ3 (t:=1) a5 b5
    generalize bl n k5 1=k6 at *
    by_cases hn:n=0
    · subst hn
      rcases b6 with h | h
      · have:=Nat.two_pow_pos k6; omega
      · rw [h]; decide
    · rcases b6 with h | h
      · exact ((Nat.log2_eq_iff hn).2 ⟨h,a6⟩).symm
      · subst h
        exact ((Nat.log2_eq_iff hn).2 ⟨by omega,a6⟩).symm
def lgK {α:Type} (g n:Nat) (k:Nat→α):α :=
  wn (Nat.shiftRight n g) fun q =>
  bif Nat.beq q 1 then k g else
  bif Nat.beq q 0 then (bif Nat.beq (Nat.shiftRight n (Nat.sub g 1)) 1 then k (Nat.sub g 1) else wn (lgS n) k) else
  bif Nat.ble q 3 then k (Nat.succ g) else wn (lgS n) k
theorem zEs {n g:Nat} (h:n / 2^g=1):n.log2=g:=by
  have hp:=Nat.two_pow_pos g
  have h1:n=2^g*1+n % 2^g:=by have:=Nat.div_add_mod n (2^g); rw [h] at this; exact this.symm
  have h2:=Nat.mod_lt n hp
  refine (Nat.log2_eq_iff (by omega)).2 ⟨by omega,by rw [Nat.pow_succ]; omega⟩
theorem zBT {a b:Nat} (h:Nat.beq a b=true):a=b:=Nat.eq_of_beq_eq_true h
theorem zA5 {a b:Nat} (h:Nat.beq a b=false):a≠b:=fun e=>by subst e; rw [Nat.beq_refl] at h; cases h
theorem zSU {α:Type} (g n:Nat) (k:Nat→α):lgK g n k=k n.log2:=by
  unfold lgK
  rw [zAq]
  show (bif Nat.beq (n >>> g) 1 then k g else bif Nat.beq (n >>> g) 0 then (bif Nat.beq (n >>> (g - 1)) 1 then k (g - 1) else wn (lgS n) k) else bif Nat.ble (n >>> g) 3 then k (g+1) else wn (lgS n) k)=_
  rw [Nat.shiftRight_eq_div_pow,Nat.shiftRight_eq_div_pow,zAq,zWw]
  cases h1:Nat.beq (n / 2^g) 1
  · cases h2:Nat.beq (n / 2^g) 0
    · cases h3:Nat.ble (n / 2^g) 3
      · rfl
      · have a:=zA5 h1
        have b:=zA5 h2
        have c:=Nat.le_of_ble_eq_true h3
        have:n / 2^(g+1)=1:=by
          rw [Nat.pow_succ,← Nat.div_div_eq_div_mul]
          generalize n / 2^g=q at *
          omega
        show k (g+1)=_
        rw [zEs this]
    · cases h3:Nat.beq (n / 2^(g - 1)) 1
      · rfl
      · show k (g - 1)=_
        rw [zEs (zBT h3)]
  · show k g=_
    rw [zEs (zBT h1)]
def rnP {α:Type} (n b l:Nat) (k:Nat→Nat→Option α):Option α :=
  bif Nat.ble l 52 then (bif Nat.ble (Nat.sub 52 l) b then wn (Nat.shiftLeft n (Nat.sub 52 l)) fun m=>k m (Nat.sub b (Nat.sub 52 l)) else none) else
  wn (Nat.sub l 52) fun d=>wn (Nat.shiftRight (Nat.add (Nat.add (Nat.mul 2 n) (Nat.sub (Nat.pow 2 d) 1)) (Nat.mod (Nat.shiftRight n d) 2)) (Nat.succ d)) fun m=>wn (Nat.add b d) fun e=>k m e
theorem zRe {α:Type} {n b l:Nat} {k:Nat→Nat→Option α} {r:α} (hl:n.log2=l) (h:rnP n b l k=some r) :
    ∃ m e,k m e=some r∧l+b=e+52∧m=rhe (n*2^b) (2^e):=by
  unfold rnP at h
  cases h1:Nat.ble l 52
  · rw [h1] at h
    have hlt:52<l:=by
      refine Nat.lt_of_not_le fun hc=>?_
      rw [Nat.ble_eq_true_of_le hc] at h1; cases h1
    simp only [cond_false,zAq] at h
    refine ⟨_,_,h,?_,?_⟩
    · show l+b=b+(l - 52)+52
      omega
    · show (2*n+(2^(l - 52) - 1)+(n >>> (l - 52)) % 2) >>> (l - 52+1)=rhe (n*2^b) (2^(b+(l - 52)))
      rw [Nat.pow_add,Nat.mul_comm n,zCp _ _ _ (Nat.two_pow_pos _) (Nat.two_pow_pos _)]
      unfold rhe
      rw [Nat.shiftRight_eq_div_pow,Nat.shiftRight_eq_div_pow,Nat.pow_succ,Nat.mul_comm (2^(l - 52)) 2]
  · rw [h1] at h
    have hle:=Nat.le_of_ble_eq_true h1
    cases h2:Nat.ble (Nat.sub 52 l) b
    · rw [h2] at h; cases h
    · rw [h2] at h
      have hb:52 - l≤b:=Nat.le_of_ble_eq_true h2
      simp only [cond_true,zAq] at h
      refine ⟨_,_,h,?_,?_⟩
      · show l+b=b - (52 - l)+52
        omega
      · show n <<< (52 - l)=rhe (n*2^b) (2^(b - (52 - l)))
        have e:n*2^b=n*2^(52 - l)*2^(b - (52 - l)):=by rw [Nat.mul_assoc,← Nat.pow_add]; congr 2; omega
        rw [e,zBe,Nat.shiftLeft_eq]
theorem zVi {t n b e l:Nat} (hn:n≠0) (hl:n.log2=l) (h:l+b=e+52) (ht:t≤e):rndT t (n*2^b)=rhe (n*2^b) (2^e)*2^(e - t):=by
  rw [zDd,zDl,zAX n b (Nat.pos_of_ne_zero hn),hl,show max (l+b - 52) t=e from by omega]
def PV (s:Bool) (m e:Nat):Int:=(if s then -1 else 1)*((m*2^e:Nat):Int)
theorem zGz (t:Nat) (s:Bool) (n b e:Nat) (hn:n≠0) (h:n.log2+b=e+52) (ht:t≤e):rndI t (PV s n b)=PV s (rhe (n*2^b) (2^e)) (e - t):=by
  unfold PV
  rw [zEl,zVi hn rfl h ht]
theorem zDr (s:Bool) (e:Nat):PV s 0 e=0:=by unfold PV; cases s <;> simp
theorem zE9 (t:Nat):rndI t 0=0:=by show Int.ofNat (rndT t 0)=0; rw [zCW]; rfl
theorem zDZ (s:Bool) (m e:Nat):(PV s m e).natAbs=m*2^e:=zCg s _
theorem zOm (s t:Bool) (m n e f:Nat):PV s m e*PV t n f=PV (s ^^ t) (m*n) (e+f):=by
  unfold PV
  rw [zNo,Nat.pow_add]
  congr 2
  ac_rfl
theorem zXO (s:Bool) (m e:Nat):PV (!s) m e = - PV s m e:=by
  unfold PV; cases s <;> simp
def mulP {α:Type} (s:Bool) (m e:Nat) (t:Bool) (n f:Nat) (k:Bool→Nat→Nat→Option α):Option α :=
  wn (Nat.mul m n) fun p=>bif Nat.beq p 0 then k (Bool.xor s t) 0 0 else lgK 104 p fun l =>
  bif Nat.ble 1126 (Nat.add l (Nat.add e f))&&Nat.blt (Nat.add l (Nat.add e f)) 3164 then rnP p (Nat.add e f) l fun m e=>wn (Nat.sub e 1074) fun e=>k (Bool.xor s t) m e else none
theorem zF2 {α:Type} {c:Bool} {x:Option α} {r:α} (h:(bif c then x else none)=some r):c=true∧x=some r:=by
  cases c
  · cases h
  · exact ⟨rfl,h⟩
theorem zPI {α:Type} {x y:Nat} {s t:Bool} {m e n f:Nat} {k:Bool→Nat→Nat→Option α} {r:α} (hx:FV x (PV s m e)) (hy:FV y (PV t n f)) (h:mulP s m e t n f k=some r) :
    ∃ z s' m' e',fmul x y=some z∧FV z (PV s' m' e')∧k s' m' e'=some r:=by
  unfold mulP at h
  rw [zAq] at h
  by_cases h0:m*n=0
  · have e0:Nat.beq (Nat.mul m n) 0=true:=by show Nat.beq (m*n) 0=true; rw [h0]; rfl
    rw [e0] at h
    have hv:PV s m e*PV t n f=0:=by rw [zOm,h0,zDr]
    obtain ⟨z,hz,hf⟩:=zCQ hx hy (by rw [hv]; decide)
    rw [hv,zE9] at hf
    exact ⟨z,_,0,0,hz,by rw [zDr]; exact hf,h⟩
  · have e0:Nat.beq (Nat.mul m n) 0=false:=by
      cases hb:Nat.beq (Nat.mul m n) 0
      · rfl
      · exact absurd (zBT hb) h0
    rw [e0,cond_false,zSU] at h
    obtain ⟨hc,h⟩:=zF2 h
    rw [Bool.and_eq_true] at hc
    have c1:1126≤(m*n).log2+(e+f):=Nat.le_of_ble_eq_true hc.1
    have c2:(m*n).log2+(e+f)<3164:=Nat.blt_eq ▸ hc.2
    obtain ⟨m',e',hk,hs,hm⟩:=zRe rfl h
    rw [zAq] at hk
    have hs':(m*n).log2+(e+f)=e'+52:=hs
    have hm':m'=rhe (m*n*2^(e+f)) (2^e'):=hm
    have hv:=zOm s t m n e f
    obtain ⟨z,hz,hf⟩:=zCQ hx hy (by rw [hv,zDZ,zAX _ _ (Nat.pos_of_ne_zero h0)]; omega)
    rw [hv,zGz 1074 _ _ _ e' h0 hs' (by omega),← hm'] at hf
    exact ⟨z,_,m',e' - 1074,hz,hf,hk⟩
def sumP {α:Type} (s:Bool) (a:Nat) (t:Bool) (c:Nat) (b g:Nat) (k:Bool→Nat→Nat→Option α):Option α :=
  bif Bool.xor s t then
    (bif Nat.ble c a then wn (Nat.sub a c) fun n=>bif Nat.beq n 0 then k false 0 0 else lgK g n fun l=>bif Nat.blt (Nat.add l b) 2090 then rnP n b l (k s) else none
     else wn (Nat.sub c a) fun n=>lgK g n fun l=>bif Nat.blt (Nat.add l b) 2090 then rnP n b l (k t) else none)
  else wn (Nat.add a c) fun n=>bif Nat.beq n 0 then k s 0 0 else lgK g n fun l=>bif Nat.blt (Nat.add l b) 2090 then rnP n b l (k s) else none
theorem zKQ {α:Type} {s:Bool} {n b g:Nat} {k:Bool→Nat→Nat→Option α} {r:α} (hn:n≠0) (h:(lgK g n fun l=>bif Nat.blt (Nat.add l b) 2090 then rnP n b l (k s) else none)=some r) :
    ∃ s' m' e',k s' m' e'=some r∧rndI 0 (PV s n b)=PV s' m' e'∧(PV s n b).natAbs.log2<2090:=by
  rw [zSU] at h
  obtain ⟨hc,h⟩:=zF2 h
  have c2:n.log2+b<2090:=Nat.blt_eq ▸ hc
  obtain ⟨m',e',hk,hs,hm⟩:=zRe rfl h
  refine ⟨s,m',e',hk,?_,?_⟩
  · rw [zGz 0 _ _ _ e' hn hs (by omega),← hm]; rfl
  · rw [zDZ,zAX _ _ (Nat.pos_of_ne_zero hn)]; omega
theorem zHp (s t:Bool) (a c b:Nat) (hst:(s ^^ t)=true) (h:c≤a):PV s a b+PV t c b=PV s (a - c) b:=by
  unfold PV
  rw [Nat.sub_mul,Int.natCast_sub (Nat.mul_le_mul_right _ h)]
  generalize a*2^b=A
  generalize c*2^b=C
  cases s <;> cases t <;> simp_all <;> omega
theorem zNd (s t:Bool) (a c b:Nat) (hst:(s ^^ t)=false):PV s a b+PV t c b=PV s (a+c) b:=by
  unfold PV
  rw [Nat.add_mul]
  generalize a*2^b=A
  generalize c*2^b=C
  cases s <;> cases t <;> simp_all <;> omega
theorem zH3 {α:Type} {s t:Bool} {a c b g:Nat} {k:Bool→Nat→Nat→Option α} {r:α} (h:sumP s a t c b g k=some r) :
    ∃ s' m' e',k s' m' e'=some r∧rndI 0 (PV s a b+PV t c b)=PV s' m' e'∧(PV s a b+PV t c b).natAbs.log2<2090:=by
  unfold sumP at h
  cases hst:(s ^^ t)
  · rw [zNd s t a c b hst]
    rw [hst,cond_false,zAq] at h
    cases h0:Nat.beq (Nat.add a c) 0
    · rw [h0] at h
      exact zKQ (zA5 h0) h
    · rw [h0] at h
      have e0:a+c=0:=zBT h0
      rw [e0,zDr,zE9]
      exact ⟨s,0,0,h,by rw [zDr],by decide⟩
  · rw [hst,cond_true] at h
    cases hle:Nat.ble c a
    · rw [hle,cond_false,zAq] at h
      have hlt:¬ c≤a:=fun hc=>by rw [Nat.ble_eq_true_of_le hc] at hle; cases hle
      rw [Int.add_comm,zHp t s c a b (by rw [Bool.xor_comm]; exact hst) (by omega)]
      exact zKQ (by omega) h
    · rw [hle,cond_true,zAq] at h
      have hle':=Nat.le_of_ble_eq_true hle
      rw [zHp s t a c b hst hle']
      cases h0:Nat.beq (Nat.sub a c) 0
      · rw [h0] at h
        exact zKQ (zA5 h0) h
      · rw [h0] at h
        have e0:a - c=0:=zBT h0
        rw [e0,zDr,zE9]
        exact ⟨false,0,0,h,by rw [zDr],by decide⟩
def addP {α:Type} (s:Bool) (m e:Nat) (t:Bool) (n f:Nat) (k:Bool→Nat→Nat→Option α):Option α :=
  bif Nat.ble f e then wn (Nat.sub e f) fun d=>sumP s (Nat.shiftLeft m d) t n f (Nat.add 52 d) k
  else wn (Nat.sub f e) fun d=>sumP s m t (Nat.shiftLeft n d) e (Nat.add 52 d) k
def subP {α:Type} (s:Bool) (m e:Nat) (t:Bool) (n f:Nat) (k:Bool→Nat→Nat→Option α):Option α:=addP s m e (!t) n f k
theorem zOk (s:Bool) (m e f:Nat) (h:f≤e):PV s (m <<< (e - f)) f=PV s m e:=by
  unfold PV
  rw [Nat.shiftLeft_eq,Nat.mul_assoc,← Nat.pow_add,show e - f+f=e from by omega]
theorem zOh {α:Type} {s t:Bool} {m e n f:Nat} {k:Bool→Nat→Nat→Option α} {r:α} (h:addP s m e t n f k=some r) :
    ∃ s' m' e',k s' m' e'=some r∧rndI 0 (PV s m e+PV t n f)=PV s' m' e'∧(PV s m e+PV t n f).natAbs.log2<2090:=by
  unfold addP at h
  cases hc:Nat.ble f e
  · have hlt:¬ f≤e:=fun hc'=>by rw [Nat.ble_eq_true_of_le hc'] at hc; cases hc
    rw [hc,cond_false,zAq] at h
    have:=zH3 h
    rwa [show Nat.shiftLeft n (Nat.sub f e)=n <<< (f - e) from rfl,zOk t n f e (by omega)] at this
  · rw [hc,cond_true,zAq] at h
    have:=zH3 h
    rwa [show Nat.shiftLeft m (Nat.sub e f)=m <<< (e - f) from rfl,zOk s m e f (Nat.le_of_ble_eq_true hc)] at this
theorem zQ9 {α:Type} {x y:Nat} {s t:Bool} {m e n f:Nat} {k:Bool→Nat→Nat→Option α} {r:α} (hx:FV x (PV s m e)) (hy:FV y (PV t n f)) (h:addP s m e t n f k=some r) :
    ∃ z s' m' e',fadd x y=some z∧FV z (PV s' m' e')∧k s' m' e'=some r:=by
  obtain ⟨s',m',e',hk,hv,hl⟩:=zOh h
  obtain ⟨z,hz,hf⟩:=zEv hx hy hl
  rw [hv] at hf
  exact ⟨z,s',m',e',hz,hf,hk⟩
theorem zO0 {α:Type} {x y:Nat} {s t:Bool} {m e n f:Nat} {k:Bool→Nat→Nat→Option α} {r:α} (hx:FV x (PV s m e)) (hy:FV y (PV t n f)) (h:subP s m e t n f k=some r) :
    ∃ z s' m' e',fsub x y=some z∧FV z (PV s' m' e')∧k s' m' e'=some r:=by
  obtain ⟨s',m',e',hk,hv,hl⟩:=zOh h
  rw [zXO,← Int.sub_eq_add_neg] at hv hl
  obtain ⟨z,hz,hf⟩:=zDG hx hy hl
  rw [hv] at hf
  exact ⟨z,s',m',e',hz,hf,hk⟩
theorem zCL {s t:Bool} {A B:Nat} (h:(if s then (-1:Int) else 1)*(A:Int)=(if t then (-1:Int) else 1)*(B:Int)):A=B∧(A≠0→s=t):=by
  cases s <;> cases t <;> simp at h ⊢ <;> omega
theorem zWg {m e n f l c K:Nat} (hcc:c=60) (hK:K=1074) (hqn:quoN (m*2^e) (n*2^f)=2*(m*2^e*2^K / (n*2^f))+if m*2^e*2^K % (n*2^f)=0 then 0 else 1) (hn:n≠0) (hl:(2*(m*2^c / n)+if m*2^c % n=0 then 0 else 1).log2=l) (h54:54<l) (hf:f≤e+1013) :
    (quoN (m*2^e) (n*2^f)).log2=l+(e+1013 - f)+1 ∧
    rndT 1 (quoN (m*2^e) (n*2^f))=rhe ((2*(m*2^c / n)+if m*2^c % n=0 then 0 else 1)*2^(e+1013 - f)) (2^(l+(e+1013 - f) - 52))*2^(l+(e+1013 - f) - 52):=by
  have hn':0<n:=Nat.pos_of_ne_zero hn
  have hD:0<n*2^f:=Nat.mul_pos hn' (Nat.two_pow_pos _)
  obtain ⟨b,hb⟩:∃ b,b=e+1013 - f:=⟨_,rfl⟩
  have hbe:b+1+f+c=e+K:=by omega
  rw [← hb]
  clear hcc hK hb hf
  have h0':m*2^c / n≠0:=by
    intro h
    rw [h] at hl
    have hs:=zCo (m*2^c % n=0)
    generalize (if m*2^c % n=0 then 0 else 1:Nat)=σ at hl hs
    have:(2*0+σ).log2≤0:=by
      rcases Nat.lt_or_eq_of_le hs with h | h
      · have:σ=0:=by omega
        subst this; decide
      · subst h; decide
    omega
  rw [zCu _ _ h0' (zCo _)] at hl
  have hEq:m*2^e*2^K*n*2^0=m*2^c*(n*2^f)*2^(b+1):=by
    have hx:e+K=c+f+(b+1):=by omega
    have:2^e*2^K=2^c*2^f*2^(b+1):=by rw [← Nat.pow_add,← Nat.pow_add,← Nat.pow_add,hx]
    calc m*2^e*2^K*n*2^0=m*n*(2^e*2^K):=by rw [Nat.pow_zero,Nat.mul_one]; ac_rfl
      _=m*n*(2^c*2^f*2^(b+1)):=by rw [this]
      _=m*2^c*(n*2^f)*2^(b+1):=by ac_rfl
  have h0:m*2^e*2^K / (n*2^f)≠0:=by
    have h1:n≤m*2^c:=by
      refine Nat.le_of_not_lt fun hc=>h0' (Nat.div_eq_of_lt hc)
    refine Nat.ne_of_gt ((Nat.le_div_iff_mul_le hD).2 ?_)
    have h2:n*(n*2^f)*2^(b+1)≤m*2^c*(n*2^f)*2^(b+1):=Nat.mul_le_mul_right _ (Nat.mul_le_mul_right _ h1)
    rw [← hEq,Nat.pow_zero,Nat.mul_one] at h2
    have h3:n*(n*2^f)*1≤n*(n*2^f)*2^(b+1):=Nat.mul_le_mul_left _ (Nat.two_pow_pos _)
    have h4:n*(n*2^f)≤n*(m*2^e*2^K):=by rw [Nat.mul_comm n (m*2^e*2^K)]; omega
    have h5:=Nat.le_of_mul_le_mul_left h4 hn'
    omega
  obtain ⟨r1,r2⟩:=zO5 (m*2^e*2^K) (n*2^f) (m*2^c) n 0 (b+1) hD hn' hEq h0 h0'
  have hlog:(quoN (m*2^e) (n*2^f)).log2=l+b+1:=by
    rw [hqn,zCu _ _ h0 (zCo _)]
    omega
  refine ⟨hlog,?_⟩
  rw [zDd,zDl,hlog,show max (l+b+1 - 52) 1=l+b - 51 from by omega,show l+b - 51 - 1=l+b - 52 from by omega,hqn]
  refine congrArg (· * 2^(l+b - 52)) ?_
  rw [show l+b - 51=(l+b - 52)+1 from by omega,Nat.pow_succ',zEO _ _ _ hD (Nat.two_pow_pos _) (by rw [show l+b - 52=(l+b - 53)+1 from by omega,Nat.pow_succ]; omega)]
  rw [r2 (l+b - 52) (l - 53) (by omega)]
  rw [show l+b - 52=b+(l - 52) from by omega,Nat.pow_add,Nat.mul_comm _ (2^b),zCp _ _ _ (Nat.two_pow_pos _) (Nat.two_pow_pos _)]
  rw [show l - 52=(l - 53)+1 from by omega,Nat.pow_succ',zEO _ _ _ hn' (Nat.two_pow_pos _) (by rw [show l - 53=(l - 54)+1 from by omega,Nat.pow_succ]; omega)]
def quoP (m n:Nat):Nat:=Nat.add (Nat.mul 2 (Nat.div (Nat.shiftLeft m 60) n)) (bif Nat.beq (Nat.mod (Nat.shiftLeft m 60) n) 0 then 0 else 1)
theorem zRm (m n:Nat):∃ c,c=60∧quoP m n=2*(m*2^c / n)+if m*2^c % n=0 then 0 else 1:=by
  refine ⟨60,rfl,?_⟩
  show 2*((m <<< 60) / n)+(bif Nat.beq ((m <<< 60) % n) 0 then 0 else 1)=_
  rw [Nat.shiftLeft_eq]
  generalize m*2^60=A
  congr 1
  by_cases h:A % n=0
  · rw [if_pos h,h]; rfl
  · rw [if_neg h]
    cases hb:Nat.beq (A % n) 0
    · rfl
    · exact absurd (zBT hb) h
theorem zXb {m e n f l:Nat} (hn:n≠0) (hl:(quoP m n).log2=l) (h54:54<l) (hf:f≤e+1013) :
    (quoN (m*2^e) (n*2^f)).log2=l+(e+1013 - f)+1 ∧
    rndT 1 (quoN (m*2^e) (n*2^f))=rhe (quoP m n*2^(e+1013 - f)) (2^(l+(e+1013 - f) - 52))*2^(l+(e+1013 - f) - 52):=by
  obtain ⟨c,hc,hq⟩:=zRm m n
  rw [hq] at hl ⊢
  obtain ⟨K,hK,hqn⟩:=zVm (m*2^e) (n*2^f)
  exact zWg hc hK hqn hn hl h54 hf
theorem zG0 {m n:Nat}:quoP m n=0↔m=0:=by
  obtain ⟨c,-,hq⟩:=zRm m n
  rw [hq]
  constructor
  · intro h0
    by_cases hmod:m*2^c % n=0
    · rw [if_pos hmod] at h0
      have hd:=Nat.div_add_mod (m*2^c) n
      rw [hmod,show m*2^c / n=0 from by omega,Nat.mul_zero] at hd
      rcases Nat.mul_eq_zero.1 hd.symm with h | h
      · exact h
      · have:=Nat.two_pow_pos c; omega
    · rw [if_neg hmod] at h0; omega
  · intro h
    rw [h,Nat.zero_mul,Nat.zero_div,Nat.zero_mod]; rfl
def divP {α:Type} (s:Bool) (m e:Nat) (t:Bool) (n f:Nat) (k:Bool→Nat→Nat→Option α):Option α :=
  bif Nat.beq n 0 then none else
  wn (quoP m n) fun q =>
  bif Nat.beq q 0 then k (Bool.xor s t) 0 0 else
  lgK 61 q fun l=>bif Nat.blt 54 l&&(Nat.ble f (Nat.add e 1013)&&(Nat.blt 70 (Nat.sub (Nat.add e 1013) f)&&Nat.blt (Nat.add (Nat.sub (Nat.add e 1013) f) l) 2080)) then rnP q (Nat.sub (Nat.add e 1013) f) l fun m e=>k (Bool.xor s t) m e else none
theorem zIN {α:Type} {x y:Nat} {s t:Bool} {m e n f:Nat} {k:Bool→Nat→Nat→Option α} {r:α} (hx:FV x (PV s m e)) (hy:FV y (PV t n f)) (h:divP s m e t n f k=some r) :
    ∃ z s' m' e',fdiv x y=some z∧FV z (PV s' m' e')∧k s' m' e'=some r:=by
  unfold divP at h
  cases hn0:Nat.beq n 0
  · have hn:=zA5 hn0
    rw [hn0,cond_false,zAq] at h
    obtain ⟨-,s1,m1,i1,rx,vx⟩:=hx
    obtain ⟨-,t1,n1,j1,ry,vy⟩:=hy
    have hi:=(zAT rx).1
    have hj:=(zAT ry).1
    rw [zAm] at vx vy
    obtain ⟨ax,sx⟩:=zCL vx
    obtain ⟨ay,sy⟩:=zCL vy
    have hn1:n1≠0:=by
      intro h0
      rw [h0,Nat.zero_mul] at ay
      have:=Nat.mul_pos (Nat.pos_of_ne_zero hn) (Nat.two_pow_pos f)
      omega
    have hm1:m1=0↔m=0:=by
      constructor
      · intro h0
        rw [h0,Nat.zero_mul] at ax
        rcases Nat.mul_eq_zero.1 ax.symm with h | h
        · exact h
        · have:=Nat.two_pow_pos e; omega
      · intro h0
        rw [h0,Nat.zero_mul] at ax
        rcases Nat.mul_eq_zero.1 ax with h | h
        · exact h
        · have:=Nat.two_pow_pos (i1+1074).toNat; omega
    have ht:t1=t:=sy (by have:=Nat.mul_pos (Nat.pos_of_ne_zero hn1) (Nat.two_pow_pos (j1+1074).toNat); omega)
    have hres:fdiv x y=some (double.nearest (s1 ^^ t1) (2*((m1 <<< (54+n1.log2 - m1.log2)) / n1)+((m1 <<< (54+n1.log2 - m1.log2)) % n1 != 0).toNat) (i1 - j1 - (54+n1.log2 - m1.log2:Nat) - 1)):=by
      show ((double.read x).quotient (double.fractionBits+2) (double.read y)).map double.write=_
      rw [rx,ry]
      show (if n1=0 then if m1=0 then none else some (Datum.infinity (s1 ^^ t1)) else _:Option Datum).map double.write=_
      rw [if_neg hn1]
      rfl
    by_cases h0:quoP m n=0
    · rw [h0] at h
      have h':k (Bool.xor s t) 0 0=some r:=h
      have hm:m=0:=zG0.1 h0
      have hm1':=hm1.2 hm
      refine ⟨_,_,0,0,hres,?_,h'⟩
      rw [zDr,hm1']
      refine ⟨zET _ _ _,?_⟩
      have e0:∀ a,2*((0 <<< a) / n1)+((0 <<< a) % n1 != 0).toNat=0:=fun a=>by
        rw [Nat.shiftLeft_eq,Nat.zero_mul,Nat.zero_div,Nat.zero_mod]; rfl
      rw [e0]
      obtain ⟨mm,ii,g1,g2,_,_,g5⟩:=zBp (s1 ^^ t1) 0 0 (Nat.zero_le _) (Nat.zero_le _) (Or.inr (Eq.refl 0)) (by decide)
      refine ⟨s1 ^^ t1,mm,ii,?_,?_⟩
      · unfold Format.nearest; rw [if_pos rfl]; simpa using g1
      · rw [zAm,g5]; simp
    · have hb0:Nat.beq (quoP m n) 0=false:=by
        cases hb:Nat.beq (quoP m n) 0
        · rfl
        · exact absurd (zBT hb) h0
      rw [hb0,cond_false,zSU] at h
      obtain ⟨hc,h⟩:=zF2 h
      rw [Bool.and_eq_true,Bool.and_eq_true,Bool.and_eq_true] at hc
      have c1:54<(quoP m n).log2:=Nat.blt_eq ▸ hc.1
      have c2:f≤e+1013:=Nat.le_of_ble_eq_true hc.2.1
      have c3:70<e+1013 - f:=Nat.blt_eq ▸ hc.2.2.1
      have c4:e+1013 - f+(quoP m n).log2<2080:=Nat.blt_eq ▸ hc.2.2.2
      obtain ⟨m',e',hk,hs,hm'⟩:=zRe rfl h
      obtain ⟨l,hl⟩:∃ l,l=(quoP m n).log2:=⟨_,rfl⟩
      rw [← hl] at c1 c4 hs
      obtain ⟨q1,q2⟩:=zXb hn hl.symm c1 c2
      have hs':l+(e+1013 - f)=e'+52:=hs
      have hm:m≠0:=fun hm=>h0 (zG0.2 hm)
      have hm1':m1≠0:=fun h=>hm (hm1.1 h)
      have hss:s1=s:=sx (by have:=Nat.mul_pos (Nat.pos_of_ne_zero hm1') (Nat.two_pow_pos (i1+1074).toNat); omega)
      obtain ⟨mm,ii,g1,g2,g3⟩:=zNu (s1 ^^ t1) m1 n1 i1 j1 hm1' hn1 hi hj _ _ rfl rfl (by rw [ax,ay,q1]; omega) (by rw [ax,ay,q1]; omega) (54+n1.log2 - m1.log2) rfl
      rw [ax,ay,q2,show l+(e+1013 - f) - 52=e' from by omega] at g3
      refine ⟨_,s ^^ t,m',e',hres,⟨zET _ _ _,s1 ^^ t1,mm,ii,g1,?_⟩,hk⟩
      rw [zAm,g3,hss,ht,hm']
      rfl
  · rw [hn0] at h; cases h
end Go.Proofs.YtllaekopaglolaaGreat
end
/-
  The float operations on bits,fit to be computed: equal to the model's,whatever the bits.
-/
section
namespace Go.Proofs.YtllaekopaglolaaGreat
open Ieee
set_option exponentiation.threshold 5000
def zAs (r:Nat):Nat:=if r<4503599627370496 then r else (4503599627370496+r % 4503599627370496)*2^(r / 4503599627370496 - 1)
theorem zE4 {r:Nat} (h:4503599627370496≤r):(zAs r).log2=52+(r / 4503599627370496 - 1):=by
  unfold zAs
  rw [if_neg (by omega),zAX _ _ (by omega)]
  congr 1
  exact (Nat.log2_eq_iff (by omega)).2 ⟨by have : (2 : Nat) ^ 52 = 4503599627370496 := by decide
                                           omega, by have : (2 : Nat) ^ (52 + 1) = 9007199254740992 := by decide
                                                     omega⟩
theorem zRc {r t:Nat} (h:zAs r=zAs t):r=t:=by
  have small:∀ {a:Nat},a<4503599627370496→zAs a=a:=fun ha=>by unfold zAs; rw [if_pos ha]
  have big:∀ {a:Nat},4503599627370496≤a→4503599627370496≤zAs a:=fun {a} ha=>by
    unfold zAs
    rw [if_neg (by omega)]
    have h1:=Nat.two_pow_pos (a / 4503599627370496 - 1)
    have h2:(4503599627370496+a % 4503599627370496)*1≤(4503599627370496+a % 4503599627370496)*2^(a / 4503599627370496 - 1):=Nat.mul_le_mul_left _ h1
    omega
  by_cases hr:r<4503599627370496
  · by_cases ht:t<4503599627370496
    · rwa [small hr,small ht] at h
    · have:=big (Nat.le_of_not_lt ht)
      rw [← h,small hr] at this
      omega
  · by_cases ht:t<4503599627370496
    · have:=big (Nat.le_of_not_lt hr)
      rw [h,small ht] at this
      omega
    · have l1:=zE4 (Nat.le_of_not_lt hr)
      have l2:=zE4 (Nat.le_of_not_lt ht)
      rw [h,l2] at l1
      have e:r / 4503599627370496=t / 4503599627370496:=by omega
      unfold zAs at h
      rw [if_neg hr,if_neg ht,e] at h
      have:=Nat.eq_of_mul_eq_mul_right (Nat.two_pow_pos _) h
      omega
theorem zH5 {z:Nat} {s:Bool} {m:Nat} {i:Int} (hz:z<18446744073709551616) (h:double.read z = .number s m i) :
    m*2^(i+1074).toNat=zAs (z % 9223372036854775808)∧z=(if s then 9223372036854775808 else 0)+z % 9223372036854775808:=by
  have e1:double.signWeight=9223372036854775808:=by decide
  have e2:double.binade=4503599627370496:=by decide
  have e3:double.infRung=2047*4503599627370496:=by decide
  have e4:double.leastPlace = -1074:=by decide
  unfold Format.read at h
  rw [e1,e2,e3,e4] at h
  dsimp only at h
  have hs:∀ {b:Bool},(z / 9223372036854775808 % 2 == 1)=b→z=(if b then 9223372036854775808 else 0)+z % 9223372036854775808:=by
    intro b hb
    cases b
    · have:¬ z / 9223372036854775808 % 2=1:=by simpa using hb
      simp; omega
    · have:z / 9223372036854775808 % 2=1:=by simpa using hb
      simp; omega
  generalize hr:z % 9223372036854775808=r at *
  split at h
  · rename_i hlt
    simp only [Datum.number.injEq] at h
    obtain ⟨h1,h2,h3⟩:=h
    refine ⟨?_,hs h1⟩
    unfold zAs
    rw [if_pos hlt,← h2,← h3]; simp
  · rename_i hge
    split at h
    · simp only [Datum.number.injEq] at h
      obtain ⟨h1,h2,h3⟩:=h
      refine ⟨?_,hs h1⟩
      unfold zAs
      rw [if_neg hge,← h2,← h3,show ((-1074:Int)+((r / 4503599627370496 - 1:Nat):Int)+1074).toNat=r / 4503599627370496 - 1 from by omega]
    · split at h <;> cases h
theorem zV7 {z:Nat} {s:Bool} {m e:Nat} (h:FV z (PV s m e)) (h0:m≠0):zAs (z % 9223372036854775808)=m*2^e∧z=(if s then 9223372036854775808 else 0)+z % 9223372036854775808:=by
  obtain ⟨hz,s2,m2,i2,hr,hv⟩:=h
  rw [zAm] at hv
  obtain ⟨a,b⟩:=zCL hv
  obtain ⟨c,d⟩:=zH5 hz hr
  have hne:m2*2^(i2+1074).toNat≠0:=by
    rw [a]; exact Nat.ne_of_gt (Nat.mul_pos (Nat.pos_of_ne_zero h0) (Nat.two_pow_pos e))
  rw [b hne] at d
  exact ⟨by rw [← c,a],d⟩
theorem zTu {m e:Nat} (h1:4503599627370496≤m) (h2:m≤9007199254740992):zAs (e*4503599627370496+m)=m*2^e:=by
  unfold zAs
  rw [if_neg (by omega)]
  by_cases h:m=9007199254740992
  · subst h
    rw [show (e*4503599627370496+9007199254740992) % 4503599627370496=0 from by omega,show (e*4503599627370496+9007199254740992) / 4503599627370496 - 1=e+1 from by omega,Nat.pow_succ]
    omega
  · rw [show (e*4503599627370496+m) % 4503599627370496=m - 4503599627370496 from by omega,show (e*4503599627370496+m) / 4503599627370496 - 1=e from by omega,Nat.add_sub_cancel' h1]
def enB (s:Bool) (m e:Nat):Nat:=(bif s then 9223372036854775808 else 0)+(e*4503599627370496+m)
theorem zGL {z:Nat} {s:Bool} {m e:Nat} (h:FV z (PV s m e)) (h1:4503599627370496≤m) (h2:m≤9007199254740992):z=enB s m e:=by
  obtain ⟨a,b⟩:=zV7 h (by omega)
  rw [← zTu h1 h2] at a
  have:=zRc a
  unfold enB
  rw [b,this]
  cases s <;> rfl
theorem zB2 (s:Bool) {m e:Nat} (h1:4503599627370496≤m) (h2:m≤9007199254740992) (h3:e≤2044):FV (enB s m e) (PV s m e):=by
  obtain ⟨m1,i1,g1,g2,_,_,g5⟩:=zBp s e m (by omega) h2 (.inl h1) (by omega)
  have hw:double.word s (e*4503599627370496+m)=enB s m e:=by
    have e1:double.signWeight=9223372036854775808:=by decide
    unfold Format.word enB
    rw [e1]
    cases s
    · simp
    · simp
  rw [hw] at g1
  refine ⟨?_,s,m1,i1,g1,?_⟩
  · unfold enB; cases s
    · simp; omega
    · simp; omega
  · rw [zAm,g5]; rfl
def deP (x:Nat) (k:Bool→Nat→Nat→Option Nat):Option Nat :=
  wn (Nat.div x 4503599627370496) fun h=>wn (Nat.add 4503599627370496 (Nat.mod x 4503599627370496)) fun m =>
  bif Nat.ble h 2030 then (bif Nat.beq h 0 then none else k false m (Nat.sub h 1))
  else bif Nat.ble 2049 h&&Nat.ble h 4078 then k true m (Nat.sub h 2049) else none
theorem zGQ {x:Nat} {k:Bool→Nat→Nat→Option Nat} {r:Nat} (h:deP x k=some r):∃ s m e,FV x (PV s m e)∧k s m e=some r:=by
  unfold deP at h
  rw [zAq,zAq] at h
  have hx:x=x / 4503599627370496*4503599627370496+x % 4503599627370496:=by omega
  have hm:=Nat.mod_lt x (show 0<4503599627370496 by decide)
  cases h1:Nat.ble (Nat.div x 4503599627370496) 2030
  · rw [h1,cond_false] at h
    obtain ⟨hc,h⟩:=zF2 h
    rw [Bool.and_eq_true] at hc
    have c1:2049≤x / 4503599627370496:=Nat.le_of_ble_eq_true hc.1
    have c2:x / 4503599627370496≤4078:=Nat.le_of_ble_eq_true hc.2
    refine ⟨true,_,_,?_,h⟩
    show FV x (PV true (4503599627370496+x % 4503599627370496) (x / 4503599627370496 - 2049))
    have:=zB2 true (m:=4503599627370496+x % 4503599627370496) (e:=x / 4503599627370496 - 2049) (by omega) (by omega) (by omega)
    have he:enB true (4503599627370496+x % 4503599627370496) (x / 4503599627370496 - 2049)=x:=by unfold enB; rw [cond_true]; omega
    rwa [he] at this
  · rw [h1,cond_true] at h
    have c1:x / 4503599627370496≤2030:=Nat.le_of_ble_eq_true h1
    cases h2:Nat.beq (Nat.div x 4503599627370496) 0
    · rw [h2,cond_false] at h
      have c2:x / 4503599627370496≠0:=zA5 h2
      refine ⟨false,_,_,?_,h⟩
      show FV x (PV false (4503599627370496+x % 4503599627370496) (x / 4503599627370496 - 1))
      have:=zB2 false (m:=4503599627370496+x % 4503599627370496) (e:=x / 4503599627370496 - 1) (by omega) (by omega) (by omega)
      have he:enB false (4503599627370496+x % 4503599627370496) (x / 4503599627370496 - 1)=x:=by unfold enB; rw [cond_false]; omega
      rwa [he] at this
    · rw [h2] at h; cases h
def enP (s:Bool) (m e:Nat):Option Nat :=
  bif Nat.ble 4503599627370496 m&&(Nat.ble m 9007199254740992&&Nat.ble e 2044) then wn (Nat.add (bif s then 9223372036854775808 else 0) (Nat.add (Nat.mul e 4503599627370496) m)) some else none
theorem zOZ {s:Bool} {m e z r:Nat} (h:enP s m e=some r) (hz:FV z (PV s m e)):z=r:=by
  unfold enP at h
  obtain ⟨hc,h⟩:=zF2 h
  rw [Bool.and_eq_true,Bool.and_eq_true] at hc
  rw [zAq] at h
  rw [zGL hz (Nat.le_of_ble_eq_true hc.1) (Nat.le_of_ble_eq_true hc.2.1)]
  exact Option.some.inj h
def zH9 (a:Option Nat) (b:Option Nat):Option Nat:=match a with | some r=>some r | none=>b
def qadd (x y:Nat):Option Nat:=zH9 (bif Nat.beq y 0 then deP x (fun _ _ _=>some x) else deP x fun s m e=>deP y fun t n f=>addP s m e t n f enP) (fadd x y)
def qsub (x y:Nat):Option Nat:=zH9 (bif Nat.beq y 0 then deP x (fun _ _ _=>some x) else deP x fun s m e=>deP y fun t n f=>subP s m e t n f enP) (fsub x y)
def qmul (x y:Nat):Option Nat:=zH9 (deP x fun s m e=>deP y fun t n f=>mulP s m e t n f enP) (fmul x y)
def qdiv (x y:Nat):Option Nat:=zH9 (deP x fun s m e=>deP y fun t n f=>divP s m e t n f enP) (fdiv x y)
theorem zFG {a b:Option Nat} (h:∀ r,a=some r→b=some r):zH9 a b=b:=by
  unfold zH9
  cases ha:a with
  | none=>rfl
  | some r=>exact (h r ha).symm
theorem zBu (x y:Nat):fmul x y=qmul x y:=by
  refine (zFG fun r h=>?_).symm
  obtain ⟨s,m,e,hx,h⟩:=zGQ h
  obtain ⟨t,n,f,hy,h⟩:=zGQ h
  obtain ⟨z,s',m',e',hz,hf,h⟩:=zPI hx hy h
  rw [hz,zOZ h hf]
theorem zCG (x y:Nat):fdiv x y=qdiv x y:=by
  refine (zFG fun r h=>?_).symm
  obtain ⟨s,m,e,hx,h⟩:=zGQ h
  obtain ⟨t,n,f,hy,h⟩:=zGQ h
  obtain ⟨z,s',m',e',hz,hf,h⟩:=zIN hx hy h
  rw [hz,zOZ h hf]
theorem zJ1 {x r:Nat} (h:deP x (fun _ _ _=>some x)=some r):r=x∧∃ s m e,FV x (PV s m e)∧4503599627370496≤m∧m<9007199254740992∧e≤2029:=by
  unfold deP at h
  rw [zAq,zAq] at h
  have hm:=Nat.mod_lt x (show 0<4503599627370496 by decide)
  cases h1:Nat.ble (Nat.div x 4503599627370496) 2030
  · rw [h1,cond_false] at h
    obtain ⟨hc,h⟩:=zF2 h
    rw [Bool.and_eq_true] at hc
    have c1:2049≤x / 4503599627370496:=Nat.le_of_ble_eq_true hc.1
    have c2:x / 4503599627370496≤4078:=Nat.le_of_ble_eq_true hc.2
    refine ⟨(Option.some.inj h).symm,true,4503599627370496+x % 4503599627370496,x / 4503599627370496 - 2049,?_,by omega,by omega,by omega⟩
    have:=zB2 true (m:=4503599627370496+x % 4503599627370496) (e:=x / 4503599627370496 - 2049) (by omega) (by omega) (by omega)
    have he:enB true (4503599627370496+x % 4503599627370496) (x / 4503599627370496 - 2049)=x:=by unfold enB; rw [cond_true]; omega
    rwa [he] at this
  · rw [h1,cond_true] at h
    have c1:x / 4503599627370496≤2030:=Nat.le_of_ble_eq_true h1
    cases h2:Nat.beq (Nat.div x 4503599627370496) 0
    · rw [h2,cond_false] at h
      have c2:x / 4503599627370496≠0:=zA5 h2
      refine ⟨(Option.some.inj h).symm,false,4503599627370496+x % 4503599627370496,x / 4503599627370496 - 1,?_,by omega,by omega,by omega⟩
      have:=zB2 false (m:=4503599627370496+x % 4503599627370496) (e:=x / 4503599627370496 - 1) (by omega) (by omega) (by omega)
      have he:enB false (4503599627370496+x % 4503599627370496) (x / 4503599627370496 - 1)=x:=by unfold enB; rw [cond_false]; omega
      rwa [he] at this
    · rw [h2] at h; cases h
theorem zA0:FV 0 0:=by
  refine ⟨by decide,false,0,-1074,by decide,?_⟩
  rw [zAm]; simp
theorem zJR (s:Bool) (m e:Nat) (h1:4503599627370496≤m) (h2:m<9007199254740992):rndI 0 (PV s m e)=PV s m e:=by
  have hl : m.log2 = 52 := (Nat.log2_eq_iff (by omega)).2 ⟨by have : (2 : Nat) ^ 52 = 4503599627370496 := by decide
                                                              omega, by have : (2 : Nat) ^ (52 + 1) = 9007199254740992 := by decide
                                                                        omega⟩
  rw [zGz 0 s m e e (by omega) (by omega) (Nat.zero_le _),zBe,Nat.sub_zero]
theorem zBE (x y:Nat):fadd x y=qadd x y:=by
  refine (zFG fun r h=>?_).symm
  cases hy0:Nat.beq y 0
  · rw [hy0,cond_false] at h
    obtain ⟨s,m,e,hx,h⟩:=zGQ h
    obtain ⟨t,n,f,hy,h⟩:=zGQ h
    obtain ⟨z,s',m',e',hz,hf,h⟩:=zQ9 hx hy h
    rw [hz,zOZ h hf]
  · rw [hy0,cond_true] at h
    have:y=0:=zBT hy0
    subst this
    obtain ⟨rfl,s,m,e,hx,h1,h2,h3⟩:=zJ1 h
    have hl:(PV s m e+0).natAbs.log2<2090:=by
      rw [Int.add_zero,zDZ,zAX _ _ (by omega)]
      have:m.log2<53:=(Nat.log2_lt (by omega)).2 h2
      omega
    obtain ⟨z,hz,hf⟩:=zEv hx zA0 hl
    rw [Int.add_zero,zJR s m e h1 h2] at hf
    show floatBits .add .f64 r 0=some r
    rw [hz,zGL hf h1 (by omega),zGL hx h1 (by omega)]
theorem zBZ (x y:Nat):fsub x y=qsub x y:=by
  refine (zFG fun r h=>?_).symm
  cases hy0:Nat.beq y 0
  · rw [hy0,cond_false] at h
    obtain ⟨s,m,e,hx,h⟩:=zGQ h
    obtain ⟨t,n,f,hy,h⟩:=zGQ h
    obtain ⟨z,s',m',e',hz,hf,h⟩:=zO0 hx hy h
    rw [hz,zOZ h hf]
  · rw [hy0,cond_true] at h
    have:y=0:=zBT hy0
    subst this
    obtain ⟨rfl,s,m,e,hx,h1,h2,h3⟩:=zJ1 h
    have hl:(PV s m e - 0).natAbs.log2<2090:=by
      rw [Int.sub_zero,zDZ,zAX _ _ (by omega)]
      have:m.log2<53:=(Nat.log2_lt (by omega)).2 h2
      omega
    obtain ⟨z,hz,hf⟩:=zDG hx zA0 hl
    rw [Int.sub_zero,zJR s m e h1 h2] at hf
    show floatBits .sub .f64 r 0=some r
    rw [hz,zGL hf h1 (by omega),zGL hx h1 (by omega)]
end Go.Proofs.YtllaekopaglolaaGreat
end
/-
  The mappings' small functions: exponent,significand,a float built of both; Floor.
-/
section
namespace Go.Proofs.YtllaekopaglolaaGreat
open Go.RowKit
theorem zAl {P:Program} {f:FuncId} {args:Array Value} {w:World} {n:Nat} {v:Value}
    (h:Calls P f args (w.drewN n) fun e w'=>e = .returned v∧w.drewN n=w'):Calls P f args (w.drewN n) fun e w''=>e = .returned v∧∃ m,w''=w.drewN m :=
  h.mono fun _ _ ⟨he,hm⟩=>⟨he,n,hm.symm⟩
def zHb (y:Int):Nat:=floatOfInt .f64 (wrap64 (wrap64 (bits .and .u64 y 9218868437227405312 / 4503599627370496) - 1023))
set_option maxRecDepth 100000 in
theorem zOY (y:Int) (w:World):Calls Tryz.prog 149 #[.int .u64 y] w fun e w'=>e = .returned (.float .f64 (zHb y))∧w=w':=by
  go_enter Tryz.func149,Tryz.ntmps149
  go_wp2
  go_ret
  exact ⟨rfl,rfl⟩
def zD5 (y:Int):Nat:=(bits .or .u64 (bits .and .u64 y 4503599627370495) 4607182418800017408).toNat
set_option maxRecDepth 100000 in
theorem zJP (y:Int) (w:World):Calls Tryz.prog 150 #[.int .u64 y] w fun e w'=>e = .returned (.float .f64 (zD5 y))∧w=w':=by
  go_enter Tryz.func150,Tryz.ntmps150
  go_wp2_with (go_at_call 66; refine (zAZ _ w).mono ?_; rintro e w' ⟨rfl,rfl⟩)
  go_ret
  exact ⟨rfl,rfl⟩
def zIS (k:Int) (x:Nat):Nat:=(bits .or .u64 (bits .and .u64 (IntKind.u64.wrap (wrap64 (wrap64 (k+1023)*4503599627370496))) 9218868437227405312) (bits .and .u64 (x:Int) 4503599627370495)).toNat
set_option maxRecDepth 100000 in
theorem zKD (k:Int) (x:Nat) (w:World):Calls Tryz.prog 152 #[.int .i64 k,.float .f64 x] w fun e w'=>e = .returned (.float .f64 (zIS k x))∧w=w':=by
  go_enter Tryz.func152,Tryz.ntmps152
  go_wp2_with (first | (go_at_call 88; refine (zAv _ w).mono ?_; rintro e w' ⟨rfl,rfl⟩) | (go_at_call 66; refine (zAZ _ w).mono ?_; rintro e w' ⟨rfl,rfl⟩))
  go_ret
  exact ⟨rfl,rfl⟩
end Go.Proofs.YtllaekopaglolaaGreat
end
