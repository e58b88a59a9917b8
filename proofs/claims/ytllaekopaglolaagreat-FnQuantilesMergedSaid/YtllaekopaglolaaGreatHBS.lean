/-
  Of one kind: a dense store merged into a dense store.
-/
import Derived.Test.YtllaekopaglolaaGreatHBR
import Derived.Test.YtllaekopaglolaaGreatHAC
section
namespace Go.Proofs.YtllaekopaglolaaGreat
open Go.RowKit
theorem zDo (a b:Bins) (i:Int):cntB (a++b) i=cntB a i+cntB b i:=by
  induction a with
  | nil=>show cntB b i=0+cntB b i; omega
  | cons q t ih =>
    show (if i=q.1 then cntB (t++b) i+q.2 else cntB (t++b) i)=(if i=q.1 then cntB t i+q.2 else cntB t i)+cntB b i
    rw [ih]
    split <;> omega
def upTo (f:Int→Nat) (x:Int):Int→Nat:=fun j=>if j<x then f j else 0
theorem zRH (f:Int→Nat) (x:Int):upTo f (x+1)=zAe (upTo f x) x (f x):=by
  funext j
  show (if j<x+1 then f j else 0)=if j=x then (if j<x then f j else 0)+f x else (if j<x then f j else 0)
  by_cases h:j=x
  · subst h; rw [if_pos (by omega),if_pos rfl,if_neg (by omega),Nat.zero_add]
  · rw [if_neg h]
    by_cases h2:j<x
    · rw [if_pos h2,if_pos (by omega)]
    · rw [if_neg h2,if_neg (by omega)]
theorem zRI (f:Int→Nat) (x:Int) (hz:∀ i,i<x→f i=0):upTo f x=fun _=>0:=by
  funext j
  show (if j<x then f j else 0)=0
  split
  · exact hz j ‹_›
  · rfl
theorem zTk (f:Int→Nat) (x:Int) (hz:∀ i,x≤i→f i=0):upTo f x=f:=by
  funext j
  show (if j<x then f j else 0)=f j
  split
  · rfl
  · rw [hz j (by omega)]
theorem zRJ (f:Int→Nat) (x y:Int) (hxy:x≤y) (hz:∀ i,x≤i→i<y→f i=0):upTo f y=upTo f x:=by
  funext j
  show (if j<y then f j else 0)=if j<x then f j else 0
  by_cases h:j<x
  · rw [if_pos h,if_pos (by omega)]
  · rw [if_neg h]
    split
    · exact hz j (by omega) ‹_›
    · rfl
theorem zDX {a:Bins} (ha:InR a) (i:Int):cntB a i≤tot a:=by
  by_cases h:i < -10000∨10000<i
  · rw [zBy ha i h]; omega
  · rw [← zAy ha]; exact zCk _ _ (by omega) (by omega)
theorem zKv (most om:Int) (xs ys:Bins) (S R:Nat→Prop) (p r:Nat) (w:World) (h:(zGV).St most xs S p w) (ho:(zGV).St om ys R r w) (hd:∀ b,S b→¬ R b) (hy:ys≠[]) (hfo:Few 0 om ys) (hf:zRD 0 most xs (zBz 0 om ys)) :
    Calls Tryz.prog 178 #[.pointer (some ⟨p,0,none⟩),.iface 93 (.pointer (some ⟨r,0,none⟩))] w fun e w'=>zCi zGV zGV most om xs ys S R p r w e w':=by
  obtain ⟨ks,hks⟩:∃ ks,ks=zBz 0 om ys:=⟨_,rfl⟩
  have hkc:cntB ks=cntB ys:=by rw [hks]; exact zCz (by decide) (by decide) ys
  have hkt:tot ks=tot ys:=by rw [hks]; exact zFN 0 om ys
  rw [← hks] at hf
  have htt:=hf.tot
  have hxi:=hf.inR
  have hyi:=hfo.inR
  have hcc:∀ i,cntB (xs++ks) i=cntB xs i+cntB ys i:=fun i=>by rw [zDo,hkc]
  have hta:tot (xs++ks)=tot xs+tot ys:=by rw [zBB,hkt]
  have hfun:cntB (xs++ks)=fun i=>cntB xs i+cntB ys i:=funext hcc
  have hR:=(zGV).lt om ys R r w ho
  rcases ho with ⟨h1,_,_⟩ | ⟨omn,omx,go,Lo,cpo,g1,g2,g3,g4⟩
  · exact absurd h1 hy
  have hrR:R r:=(g4 r).2 (.inl rfl)
  have hgR:R go:=(g4 go).2 (.inr rfl)
  have hO:∀ (w':World) (U:Nat→Prop),Fr U w w'→(∀ b,R b→¬ U b)→StD om ys R r w':=fun w' U hfr hn=>(zGV).fr om ys R r U w w' (.inr ⟨omn,omx,go,Lo,cpo,g1,g2,g3,g4⟩) hfr (fun k hk=>hn k hk)
  have gz:=g1.zero
  rcases h with ⟨rfl,h2,h3⟩ | ⟨mn,mx,g,L,cp,h1,h2,h3,h4⟩
  · have hpS:S p:=(h3 p).2 rfl
    have HH:=zHG (fun _=>0) (cntB ys) 0 (tot ys) 2147483647 (-2147483648) omn omx omn omx p r go Lo cpo none w h2.cells.2.2.2.1 h2.cells.2.2.2.2 (DS.lt h2)
      (fun w2 hfr=>by rw [zAp]; exact zHa omn omx p [] 124 w2 (DS.fr h2 hfr (fun h=>h)) g1.le g1.lo g1.hi)
      (fun k1 _=>absurd k1 (by have:=g1.hi; have:=g1.le; omega)) (Int.le_refl _) (Int.le_refl _) g1.le g1.lo g1.hi g1.ok gz g1.pos (by omega) (fun i=>by have:=zDX hyi i; omega)
      (fun h=>hd p hpS (by rw [← h]; exact hrR)) (fun h=>by cases h) (fun h=>hd p hpS (by rw [← h]; exact hgR)) (fun h=>by cases h) (fun x h=>by cases h)
    refine HH.mono ?_
    rintro e w' ⟨g',L',cp',rfl,hok,hpg,hL,hfr,hg⟩
    have hg':w.heap.size≤g':=hg.elim (fun h=>by cases h) id
    have e0:(fun i=>0+cntB ys i)=cntB ([]++ks):=by rw [hfun]; rfl
    have hfS:Fr S w w':=hfr.mono (fun k _ hk=>hk.elim (fun h=>(h3 k).2 h) (fun h=>by cases h))
    refine ⟨rfl,hO w' S hfS (fun b hb hs=>hd b hs hb),fun k=>k=p∨k=g',.inr ⟨omn,omx,g',L',cp',⟨?_,hpg,fun i hi=>?_,g1.le,?_,?_,g1.lo,g1.hi,hL⟩,?_,?_,fun k=>Iff.rfl⟩,hfS.mono (fun _ _ h=>.inl h),fun k hk=>?_⟩
    · rw [← hks,hta,← e0]; exact hok
    · rw [← hks,hcc,gz i hi]; rfl
    · rw [← hks,hta]; have:=g1.pos; omega
    · rw [← hks,hta]; omega
    · rw [← hks,hcc]; omega
    · rw [← hks,hcc]; omega
    · rcases hk with hk | hk
      · exact .inl ((h3 k).2 hk)
      · right; omega
  · have hpS:S p:=(h4 p).2 (.inl rfl)
    have hgS:S g:=(h4 g).2 (.inr rfl)
    obtain ⟨off,hdd,hrw,o1,o2,o3,o4⟩:=id h1.ok
    have hle:=h1.le
    have hgle:=g1.le
    have l1:=h1.lo
    have l2:=h1.hi
    have l3:=g1.lo
    have l4:=g1.hi
    have h1f:∀ w2,Fr (fun _=>False) w w2→zJE (cntB xs) (tot xs) mn mx p g L cp [] 124 w2:=fun w2 hfr=>{ h1 with ok:=h1.ok.fr hfr (fun h=>h) (fun h=>h) }
    have HH:=zHG (cntB xs) (cntB ys) (tot xs) (tot ys) mn mx (min omn mn) (max omx mx) omn omx p r go Lo cpo (some g) w hdd.cells.2.2.2.1 hdd.cells.2.2.2.2 hdd.lt
      (fun w2 hfr=>zHZ (cntB xs) (tot xs) omn omx mn mx _ _ p g L cp [] 124 w2 (h1f w2 hfr) g1.lo g1.hi rfl rfl)
      (fun k1 k2 w2 hfr=>⟨g,L,cp,rfl,by rw [show min omn mn=mn from by omega,show max omx mx=mx from by omega]; exact (h1f w2 hfr).ok,h1.ne,h1.len,Fr.refl _ _,.inl rfl⟩) (by omega) (by omega) hgle l3 l4 g1.ok gz g1.pos (by omega) (fun i=>by have:=zDX hyi i; have:=zDX hxi i; omega)
      (fun h=>hd p hpS (by rw [← h]; exact hrR)) (fun h=>hd g hgS (by rw [Option.some.inj h]; exact hrR)) (fun h=>hd p hpS (by rw [← h]; exact hgR)) (fun h=>hd g hgS (by rw [Option.some.inj h]; exact hgR)) (fun x h=>by rw [← Option.some.inj h]; exact hrw.lt)
    refine HH.mono ?_
    rintro e w' ⟨g',L',cp',rfl,hok,hpg,hL,hfr,hg⟩
    have hfS:Fr S w w':=hfr.mono (fun k _ hk=>hk.elim (fun h=>(h4 k).2 (.inl h)) (fun h=>(h4 k).2 (.inr (Option.some.inj h).symm)))
    refine ⟨rfl,hO w' S hfS (fun b hb hs=>hd b hs hb),fun k=>k=p∨k=g',.inr ⟨min omn mn,max omx mx,g',L',cp',⟨?_,hpg,fun i hi=>?_,by omega,?_,?_,by omega,by omega,hL⟩,?_,?_,fun k=>Iff.rfl⟩,hfS.mono (fun _ _ h=>.inl h),fun k hk=>?_⟩
    · rw [← hks,hta,hfun]; exact hok
    · rw [← hks,hcc,gz i (by omega),h1.zero i (by omega)]
    · rw [← hks,hta]; have:=g1.pos; omega
    · rw [← hks,hta]; omega
    · rw [← hks,hcc]
      by_cases hmn:omn≤mn
      · rw [show min omn mn=omn from by omega]; omega
      · rw [show min omn mn=mn from by omega]; omega
    · rw [← hks,hcc]
      by_cases hmx:mx≤omx
      · rw [show max omx mx=omx from by omega]; omega
      · rw [show max omx mx=mx from by omega]; omega
    · rcases hk with hk | hk
      · exact .inl ((h4 k).2 (.inl hk))
      · rcases hg with hg | hg
        · exact .inl ((h4 k).2 (.inr (by rw [hk]; exact (Option.some.inj hg).symm)))
        · right; omega
end Go.Proofs.YtllaekopaglolaaGreat
end
/-
  Of one kind: a store with pages merged into a store with pages.
-/
section
namespace Go.Proofs.YtllaekopaglolaaGreat
open Go.RowKit
def accP (G f:Int→Nat) (x:Int):Int→Nat:=fun i=>G i+upTo f x i
theorem zTU (G f:Int→Nat) (x:Int):accP G f (x+1)=zAe (accP G f x) x (f x):=by
  unfold accP
  rw [zRH]
  funext i
  simp only [zAe]
  split <;> omega
theorem zAH.lt {tg:Int} {G:Int→Nat} {bs:List Int} {q:Int→Option (Nat × Nat)} {mp:Int} {n p:Nat} {bufv pgs:Value} {w:World} (h:zAH tg G bs q mp n p bufv pgs w) {k:Nat} (hk:zAS q p bufv pgs k):k<w.heap.size:=by
  rcases hk with e | e | e | ⟨x,cp,e⟩
  · rw [e]; exact h.core.fields.lt
  · exact (h.core.buf.lt k e).2
  · exact (h.core.row.lt k e).2
  · exact (h.core.page x k cp e).lt
def zEN (tg:Int) (G':Int→Nat) (bs:List Int) (q0:Int→Option (Nat × Nat)) (p:Nat) (bufv pgs0:Value) (w wr:World) (n0:Nat) (b:Bool):Prop :=
  ∃ q' mp' n' pgs',zAH tg G' bs q' mp' n' p bufv pgs' wr∧Fr (zAS q0 p bufv pgs0) w wr∧(∀ k,zAS q' p bufv pgs' k→zAS q0 p bufv pgs0 k∨w.heap.size≤k)∧(b=true→n'=n0)
def MP1 (tg:Int) (G Go:Int→Nat) (mpo:Int) (no:Nat) (bs:List Int) (q0:Int→Option (Nat × Nat)) (p:Nat) (bufv pgs0:Value) (w wr:World) (n0:Nat) (i:Value):Prop :=
  ∃ j:Nat,j≤no∧i = .int .i64 (j:Int)∧zEN tg (accP G Go (32*(mpo+(j:Int)))) bs q0 p bufv pgs0 w wr n0 (j == 0)
def MP2 (tg:Int) (G Go:Int→Nat) (pi:Int) (bs:List Int) (q':Int→Option (Nat × Nat)) (mp':Int) (n' p:Nat) (bufv pgs':Value) (b:Nat) (w wr:World) (i:Value):Prop :=
  ∃ k:Nat,k≤32∧i = .int .i64 (k:Int)∧zAH tg (accP G Go (32*pi+(k:Int))) bs q' mp' n' p bufv pgs' wr∧Fr (fun x=>x=b) w wr
def MP3 (F:Int→Nat) (bso:List Int) (L0:Nat) (q0:Int→Option (Nat × Nat)) (p:Nat) (bufv pgs0:Value) (w wr:World) (n0:Nat) (b0:Bool) (i:Value):Prop :=
  ∃ j:Nat,j≤bso.length∧i = .int .i64 (j:Int)∧∃ tg' G' bs' q' mp' n' bufv' pgs',zAH tg' G' bs' q' mp' n' p bufv' pgs' wr∧both G' bs'=(fun x=>F x+cntI (bso.take j) x)∧InI bs'∧bs'.length≤L0+j∧Fr (zAS q0 p bufv pgs0) w wr∧(∀ k,zAS q' p bufv' pgs' k→zAS q0 p bufv pgs0 k∨w.heap.size≤k)∧((b0&&j == 0)=true→n'=n0)
def zTZ (F:Int→Nat) (L:Nat) (q0:Int→Option (Nat × Nat)) (p:Nat) (bufv pgs0:Value) (w:World) (n0:Nat) (b0:Bool) (e:Ending) (w':World):Prop :=
  ∃ tg' G' bs' q' mp' n' bufv' pgs',e = .returned (.tuple #[])∧zAH tg' G' bs' q' mp' n' p bufv' pgs' w'∧both G' bs'=F∧InI bs'∧bs'.length≤L∧Fr (zAS q0 p bufv pgs0) w w'∧(∀ k,zAS q' p bufv' pgs' k→zAS q0 p bufv pgs0 k∨w.heap.size≤k)∧(b0=true→n'=n0)
theorem zEN.next {tg:Int} {A2:Int→Nat} {bs:List Int} {q0 q' q2:Int→Option (Nat × Nat)} {mp2 pi:Int} {n2 p b cp n0:Nat} {bufv pgs0 pgs' pgs2:Value} {w wr w3 wr2:World} (hF:Fr (zAS q0 p bufv pgs0) w wr) (hN:∀ k,zAS q' p bufv pgs' k→zAS q0 p bufv pgs0 k∨w.heap.size≤k)
   (F1:Fr (zAS q' p (.slice none 0 0) pgs') wr w3) (N1:∀ k,zAS q2 p bufv pgs2 k→zAS q' p bufv pgs' k∨wr.heap.size≤k) (hq:q2 pi=some (b,cp)) (F2:Fr (fun x=>x=b) w3 wr2) (hP:zAH tg A2 bs q2 mp2 n2 p bufv pgs2 wr2):zEN tg A2 bs q0 p bufv pgs0 w wr2 n0 false:=by
  have hs:=hF.size
  have hall:∀ k,zAS q2 p bufv pgs2 k→zAS q0 p bufv pgs0 k∨w.heap.size≤k:=fun k hk=>(N1 k hk).elim (hN k) (fun h=>.inr (by omega))
  refine ⟨q2,mp2,n2,pgs2,hP,(hF.trans F1 (fun _ _ h=>h) (fun i hi h=>(hN i h.more).elim id (fun h2=>by omega))).trans F2 (fun _ _ h=>h) (fun i hi h=>?_),hall,fun h=>by cases h⟩
  subst h
  exact (hall i (.inr (.inr (.inr ⟨pi,cp,hq⟩)))).elim id (fun h2=>by omega)
theorem zEN.fr {tg:Int} {A:Int→Nat} {bs:List Int} {q0:Int→Option (Nat × Nat)} {p n0:Nat} {bufv pgs0:Value} {w wr:World} {b:Bool} (h:zEN tg A bs q0 p bufv pgs0 w wr n0 b):Fr (zAS q0 p bufv pgs0) w wr:=by
  obtain ⟨_,_,_,_,_,h,_⟩:=h; exact h
theorem zEN.weak {tg:Int} {A:Int→Nat} {bs:List Int} {q0:Int→Option (Nat × Nat)} {p n0:Nat} {bufv pgs0:Value} {w wr:World} {b:Bool} (h:zEN tg A bs q0 p bufv pgs0 w wr n0 b):zEN tg A bs q0 p bufv pgs0 w wr n0 false:=by
  obtain ⟨a1,a2,a3,a4,a5,a6,a7,_⟩:=h; exact ⟨a1,a2,a3,a4,a5,a6,a7,fun h=>by cases h⟩
theorem zTB (l:List Int) (j:Nat) (x:Int):cntI (l.take j) x≤cntI l x:=by
  conv=>rhs; rw [← List.take_append_drop j l]
  rw [zDn]; omega
set_option maxRecDepth 100000 in
set_option maxHeartbeats 4000000 in
theorem zKr {tg tgo:Int} (G Go:Int→Nat) (bs bso:List Int) (q qo:Int→Option (Nat × Nat)) (mp mpo:Int) (n no p r:Nat) (bufv pgs bufo pgso:Value) (w:World) (h:zAH tg G bs q mp n p bufv pgs w) (ho:zAH tgo Go bso qo mpo no r bufo pgso w)
   (hd:∀ k,zAS q p bufv pgs k→¬ zAS qo r bufo pgso k) (hI:InI bs) (hIo:InI bso) (hS:∀ x,both G bs x+both Go bso x<1000000000) (hL:bs.length+bso.length<1000000000) :
    Calls Tryz.prog 259 #[.pointer (some ⟨p,0,none⟩),.iface 97 (.pointer (some ⟨r,0,none⟩))] w fun e w'=>zTZ (fun x=>both G bs x+both Go bso x) (bs.length+bso.length) q p bufv pgs w n (no == 0&&bso.length == 0) e w':=by
  have hmf:∀ (fn:Fn) (first cap:Array Value) (w:World),(Instr.makeFunc fn first cap).run Tryz.prog w = .ok (.func fn first cap) w:=fun _ _ _ _=>rfl
  have hta:=fun w=>zBd (P:=Tryz.prog) 97 71 131 (.pointer (some ⟨r,0,none⟩)) Tryz.underlying97 w
  obtain ⟨ao,n1,cb,rfl⟩:=zAR ho.core.buf
  obtain rfl:=zAo ho.core.buf
  obtain ⟨aq,n2,cq,hpgs⟩:=zAR ho.core.row
  have hnq:n2=no:=by have h2:=ho.core.row; rw [hpgs] at h2; exact zAo h2
  subst hnq
  obtain ⟨no,hn2⟩:∃ no,no=n2:=⟨_,rfl⟩
  subst hn2
  obtain ⟨w1,hw1⟩:∃ w1,w1=w.alloc (.cells #[.pointer (some ⟨p,0,none⟩)] 97):=⟨_,rfl⟩
  have hf01:Fr (fun _=>False) w w1:=by rw [hw1]; exact (Fr.refl _ w).alloc _
  have hs1:w1.heap.size=w.heap.size+1:=by rw [hw1]; simp
  have hbx:w1.heap[w.heap.size]?=some (.cells #[.pointer (some ⟨p,0,none⟩)] 97 (0,0)):=by rw [hw1]; exact heap_alloc_new w _
  have hlt:∀ k,zAS q p bufv pgs k→k<w.heap.size:=fun k hk=>h.lt hk
  have hlto:∀ k,zAS qo r (.slice ao bso.length cb) pgso k→k<w.heap.size:=fun k hk=>ho.lt hk
  have h1:=h.fr hf01 (fun _ _ h=>h)
  have ho1:=ho.fr hf01 (fun _ _ h=>h)
  obtain ⟨d0,d1,d2,d3,d4,d5⟩:=h1.core.fields.cells
  obtain ⟨r0,r1,r2,r3,r4,r5⟩:=ho1.core.fields.cells
  have bx0:=cell_of_one hbx
  have hle0:bso.length<1000000000:=by omega
  have hnb:no<1000000000:=by rcases ho.bd with ⟨h1,h2,_⟩ | h2 <;> omega
  have HBD:Hid ((no=0∧mpo=9223372036854775807)∨(0<no ∧ -330≤mpo∧mpo+(no:Int)≤330)):=by rcases ho.bd with ⟨h1,h2,_⟩ | h2; exact .inl ⟨h1,h2⟩; exact .inr h2
  have HH:=Lib.hid h
  have HHO:=Lib.hid ho
  have HP:=Lib.hid hpgs
  have HD:=Lib.hid hd
  have HLT:=Lib.hid hlt
  have HLTO:=Lib.hid hlto
  have HIO:=Lib.hid hIo
  have HII:=Lib.hid hI
  have HSS:=Lib.hid hS
  have HS1:=Lib.hid hs1
  have HF01:=Lib.hid hf01
  have HBX:=Lib.hid hbx
  have hgg:∀ x y,accP G Go y x+Go x<9007199254740992:=fun x y=>by
    have h1:=hS x; have h2:both Go bso x=Go x+cntI bso x:=rfl; have h3:both G bs x=G x+cntI bs x:=rfl
    show G x+(if x<y then Go x else 0)+Go x<_
    split <;> omega
  have HGG:=Lib.hid hgg
  have HH1:=Lib.hid h1
  have HO1:=Lib.hid ho1
  have HLB:=Lib.hid hL
  rw [hw1] at d4 r4 bx0
  have HW1:=Lib.hid hw1
  clear h ho hpgs hd hlt hlto hI hIo hS hw1 hs1 hf01 hbx h1 ho1 hgg hL d0 d1 d2 d3 d5 r0 r1 r2 r3 r5
  go_enter Tryz.func259,Tryz.ntmps259
  go_wp2
  go_quiet (fail)
  obtain ⟨w2,hw2⟩:∃ w2,w2=(w.alloc (.cells #[.pointer (some ⟨p,0,none⟩)] 97)).drewN nq:=⟨_,rfl⟩
  rw [← hw2]
  rw [← HW1.out] at hw2
  have HF12:Hid (Fr (fun _=>False) w1 w2):=by rw [hw2]; exact (Fr.refl _ w1).drewN nq
  have HH2:=Lib.hid (HH1.out.fr HF12.out (fun _ _ h=>h))
  have HO2:=Lib.hid (HO1.out.fr HF12.out (fun _ _ h=>h))
  have HBX2:=Lib.hid (HF12.out.heap HBX.out (fun h=>h))
  have HS2:Hid (w2.heap.size=w.heap.size+1):=by rw [hw2]; exact HS1.out
  have HLT2:Hid (¬ zAS q p bufv pgs w.heap.size):=fun h=>Nat.lt_irrefl _ (HLT.out _ h)
  clear hw2 d4 r4 bx0 HBX HS1
  obtain ⟨-,-,r2,-,-,-⟩:=HO2.out.core.fields.cells
  rw [HP.out] at r2
  go_wp2
  clear r2
  go_loopw [36] (fun i wr=>MP1 tg G Go mpo no bs q p bufv pgs w2 wr n i) (fun i _=>no - (intOf i).toNat)
  case atStart =>
    refine ⟨0,Nat.zero_le _,rfl,q,mp,n,pgs,?_,Fr.refl _ _,fun k hk=>.inl hk,fun _=>rfl⟩
    have e1:accP G Go (32*(mpo+((0:Nat):Int)))=G:=by
      unfold accP
      rw [zRI _ _ (fun i hi=>HHO.out.low (by omega))]
      rfl
    rw [e1]; exact HH2.out
  case round =>
    obtain ⟨j,hj,rfl,hheld⟩:=hrel
    have HHELD:=Lib.hid hheld
    have HOr:Hid (zAH tgo Go bso qo mpo no r (.slice ao bso.length cb) pgso wr):=HO2.out.fr hheld.fr (fun k hk h=>HD.out k h hk)
    obtain ⟨r0,-,r2,r3,-,-⟩:=HOr.out.core.fields.cells
    rw [HP.out] at r2
    have bx0:=cell_of_one (hheld.fr.heap HBX2.out HLT2.out)
    clear hheld
    by_cases hlt:j<no
    · have hbd:-330≤mpo∧mpo+(no:Int)≤330:=by have:=HBD.out; omega
      obtain ⟨g,c0,hg2,hgc,hcell⟩:=HOr.out.rowAt (by omega)
      have HP2:=HP
      rw [HP.out] at hg2
      cases hg2
      have hc:=hcell j hlt
      have hltI:(j:Int)<(no:Int):=by omega
      have i1:IntKind.i64.wrap ((j:Int)+1)=(j:Int)+1:=by rw [IntKind.wrap_i64]; omega
      have i2:IntKind.i64.wrap (mpo+(j:Int))=mpo+(j:Int):=by rw [IntKind.wrap_i64]; omega
      cases hq:qo (mpo+(j:Int)) with
      | none =>
        rw [hq] at hc
        replace hc:wr.cell? ⟨g,j,none⟩=some (.slice none 0 0):=hc
        have hnx:Hid (zEN tg (accP G Go (32*(mpo+((j+1:Nat):Int)))) bs q p bufv pgs w2 wr n ((j+1:Nat) == 0)):=by
          have e1:accP G Go (32*(mpo+((j+1:Nat):Int)))=accP G Go (32*(mpo+(j:Int))):=by
            unfold accP
            rw [zRJ Go (32*(mpo+(j:Int))) _ (by omega) (fun i h1 h2=>HHO.out.hole hq h1 (by omega))]
          rw [e1]; exact HHELD.out.weak
        clear hcell hq
        go_wp2
        go_roundw
        case rel=>exact ⟨j+1,by omega,by go_num,hnx.out⟩
        case measure=>simp [intOf]; omega
      | some z =>
        obtain ⟨b2,cp2⟩:=z
        rw [hq] at hc
        replace hc:wr.cell? ⟨g,j,none⟩=some (.slice (some ⟨b2,0,none⟩) 32 cp2):=hc
        obtain ⟨q',mp',n',pgs',hP1,hF1,hN1,-⟩:=HHELD.out
        have hin:=HHO.out.inside _ b2 cp2 hq
        have HPG:=zIi (accP G Go (32*(mpo+(j:Int)))) bs q' mp' n' p bufv pgs' (mpo+(j:Int)) wr hP1 (by omega) (by omega)
        have HQ:=Lib.hid hq
        have HF1:=Lib.hid hF1
        have HN1:=Lib.hid hN1
        clear hcell hq hin hP1 hF1 hN1
        go_wp2_with fail
        refine HPG.mono ?_
        clear HPG
        rintro e w3 ⟨q2,mp2,n2,pgs2,b,cp,rfl,hP2,hq2,hF2,hN2⟩
        have HP3:=Lib.hid hP2
        have HQ2:=Lib.hid hq2
        have HF2:=Lib.hid hF2
        have HN2:=Lib.hid hN2
        clear hP2 hq2 hF2 hN2 hc r0 r2 r3 bx0
        go_wp2
        go_loopw [55] (fun i wr2=>MP2 tg G Go (mpo+(j:Int)) bs q2 mp2 n2 p bufv pgs2 b w3 wr2 i) (fun i _=>32 - (intOf i).toNat)
        case atStart=>exact ⟨0,by omega,rfl,by rw [show 32*(mpo+(j:Int))+((0:Nat):Int)=32*(mpo+(j:Int)) from by omega]; exact HP3.out,Fr.refl _ _⟩
        case round =>
          obtain ⟨k,hk,rfl,hPk,hFk⟩:=hrel
          have hnx0:=zEN.next (n0:=n) HF1.out HN1.out HF2.out HN2.out HQ2.out hFk hPk
          have HNX:=Lib.hid hnx0
          clear hnx0
          by_cases hk32:k<32
          · have hkI:(k:Int)<32:=by omega
            have hkcp:True:=trivial
            have i3:IntKind.i64.wrap ((k:Int)+1)=(k:Int)+1:=by rw [IntKind.wrap_i64]; omega
            have cl:=(hPk.core.page _ _ _ HQ2.out).cell k hk32
            have cf:=(hPk.core.page _ _ _ HQ2.out).free k
            have co:=((HO2.out.fr HNX.out.fr (fun k hk h=>HD.out k h hk)).core.page _ _ _ HQ.out).cell k hk32
            obtain ⟨x,hx⟩:∃ x,x=32*(mpo+(j:Int))+(k:Int):=⟨_,rfl⟩
            have HXE:=Lib.hid hx
            rw [← hx] at cl co hPk
            have hadd:=fun w:World=>run_float_arith (P:=Tryz.prog) w .add 29 .f64 _ _ _ (zAz (accP G Go x x) (Go x) (HGG.out x x))
            obtain ⟨u,hu⟩:∃ u,u=nf (accP G Go x x):=⟨_,rfl⟩
            obtain ⟨v,hv⟩:∃ v,v=nf (Go x):=⟨_,rfl⟩
            obtain ⟨y,hy⟩:∃ y,y=nf (accP G Go x x+Go x):=⟨_,rfl⟩
            rw [← hu] at cl hadd
            rw [← hv] at co hadd
            rw [← hy] at hadd
            have HY:=Lib.hid hy
            have HPK:=Lib.hid hPk
            have HFK:=Lib.hid hFk
            clear hx hu hv hy hPk hFk
            go_wp2
            go_roundw
            case rel =>
              have hx:=HXE.out
              have hxd:x / 32=mpo+(j:Int):=by omega
              have hset:=HPK.out.addTo (b:=b) (cp:=cp) x (Go x) k (by omega) (by rw [hxd]; exact HQ2.out)
              rw [← zTU,← HY.out] at hset
              refine ⟨k+1,by omega,by go_num,?_,HFK.out.setCell (p:=⟨b,k,none⟩) (fun _=>rfl) _⟩
              rw [show 32*(mpo+(j:Int))+((k+1:Nat):Int)=x+1 from by omega]
              exact hset
            case measure=>simp [intOf]; omega
          · obtain rfl:k=32:=by omega
            clear hPk hFk
            go_wp2
            go_roundw
            case rel =>
              refine ⟨j+1,by omega,by go_num,?_⟩
              rw [show 32*(mpo+((j+1:Nat):Int))=32*(mpo+(j:Int))+((32:Nat):Int) from by omega]
              exact HNX.out
            case measure=>simp [intOf]; omega
    · have hjn:j=no:=by omega
      subst hjn
      have HHA:Hid (zEN tg (fun i=>G i+Go i) bs q p bufv pgs w2 wr n (j == 0)):=by
        have e1:accP G Go (32*(mpo+(j:Int)))=fun i=>G i+Go i:=by
          unfold accP
          rw [zTk _ _ (fun i hi=>HHO.out.high (by omega))]
        have h:=HHELD.out
        rw [e1] at h
        exact h
      clear HHELD
      go_wp2
      clear r0 r2 r3 bx0
      go_loopw [74] (fun i wr2=>MP3 (fun x=>both G bs x+Go x) bso bs.length q p bufv pgs w2 wr2 n (j == 0) i) (fun i _=>bso.length - (intOf i).toNat)
      case atStart =>
        obtain ⟨q',mp',n',pgs',hP1,hF1,hN1,hb⟩:=HHA.out
        refine ⟨0,Nat.zero_le _,rfl,tg,_,bs,q',mp',n',bufv,pgs',hP1,?_,HII.out,Nat.le_refl _,hF1,hN1,fun h=>hb (by simpa using h)⟩
        funext x
        show G x+Go x+cntI bs x=(G x+cntI bs x)+Go x+0
        omega
      case round =>
        obtain ⟨l,hl,rfl,tg',G',bs',q',mp',n',bufv',pgs',hP1,hB,hI1,hlen,hF1,hN1,hb⟩:=hrel
        have hO3:=HO2.out.fr hF1 (fun k hk h=>HD.out k h hk)
        have bx0:=cell_of_one (hF1.heap HBX2.out HLT2.out)
        by_cases hlt2:l<bso.length
        · have hltI:(l:Int)<(bso.length:Int):=by omega
          obtain ⟨g,hao,hcl⟩:=zHk hO3.core.buf (by omega)
          have HAO:=Lib.hid hao
          subst hao
          have hc:=hcl l hlt2
          obtain ⟨x,hx⟩:∃ x,x=bso[l]:=⟨_,rfl⟩
          rw [← hx] at hc
          have hxI:=HIO.out x (by rw [hx]; exact List.getElem_mem hlt2)
          have i3:IntKind.i64.wrap ((l:Int)+1)=(l:Int)+1:=by rw [IntKind.wrap_i64]; omega
          have HA:=zHm G' bs' q' mp' n' p bufv' pgs' x wr hP1 hI1 (fun y=>by
            rw [hB]
            have h1:=HSS.out y
            have h2:=zTB bso l y
            have h3:both Go bso y=Go y+cntI bso y:=rfl
            show both G bs y+Go y+cntI (bso.take l) y<_
            omega) (by have:=HLB.out; omega) hxI.1 hxI.2
          have HBB:=Lib.hid hB
          have HTK:Hid (bso.take (l+1)=bso.take l++[x]):=by rw [hx]; exact (List.take_append_getElem hlt2).symm
          have HF3:=Lib.hid hF1
          have HN3:=Lib.hid hN1
          clear hP1 hB hI1 hF1 hN1 hb hO3 hcl hx hxI
          go_wp2_with fail
          refine HA.mono ?_
          clear HA
          rintro e w4 ⟨tg2,G2,bs2,q2,mp2,n2,bufv2,pgs2,rfl,k1,k2,k3,k4,k5,k6⟩
          have hs3:=HF3.out.size
          have hall:∀ k,zAS q2 p bufv2 pgs2 k→zAS q p bufv pgs k∨w2.heap.size≤k:=fun k hk=>(k6 k hk).elim (HN3.out k) (fun h=>.inr (by omega))
          have hff:=HF3.out.trans k5 (fun _ _ h=>h) (fun i hi h=>(HN3.out i h).elim id (fun h2=>by omega))
          have HALL:=Lib.hid hall
          have HFF:=Lib.hid hff
          have HK1:=Lib.hid k1
          have HK2:=Lib.hid k2
          have HK3:=Lib.hid k3
          clear hall hff k1 k2 k3 k5 k6 bx0 hc
          go_wp2
          go_roundw
          case rel =>
            refine ⟨l+1,by omega,by go_num,tg2,G2,bs2,q2,mp2,n2,bufv2,pgs2,HK1.out,?_,HK3.out,by omega,HFF.out,HALL.out,fun h=>by simp at h⟩
            rw [HK2.out,HBB.out,HTK.out]
            funext y
            show (if y=x then (both G bs y+Go y+cntI (bso.take l) y)+1 else both G bs y+Go y+cntI (bso.take l) y)=both G bs y+Go y+cntI (bso.take l++[x]) y
            rw [zFb]
            unfold zAe
            split <;> omega
          case measure=>simp [intOf]; omega
        · obtain rfl:l=bso.length:=by omega
          have hff:=(HF01.out.trans HF12.out (fun _ _ h=>h) (fun _ _ h=>h.elim)).trans hF1 (fun _ _ h=>h.elim) (fun _ _ h=>h)
          have hs2:=HS2.out
          have HR:Hid (zTZ (fun x=>both G bs x+both Go bso x) (bs.length+bso.length) q p bufv pgs w n (j == 0&&bso.length == 0) (.returned (.tuple #[])) wr):=by
            refine ⟨tg',G',bs',q',mp',n',bufv',pgs',rfl,hP1,?_,hI1,hlen,hff,fun k hk=>(hN1 k hk).imp id (fun h=>by omega),hb⟩
            rw [hB,List.take_length]
            funext y
            show both G bs y+Go y+cntI bso y=both G bs y+(Go y+cntI bso y)
            omega
          clear hP1 hB hI1 hF1 hN1 hb hO3 hff
          go_wp2
          go_end0
          exact HR.out
end Go.Proofs.YtllaekopaglolaaGreat
end
/-
  Of one kind: a store with pages,as one of its kind.
-/
section
namespace Go.Proofs.YtllaekopaglolaaGreat
open Go.RowKit
theorem zKs (most om:Int) (xs ys:Bins) (S R:Nat→Prop) (p r:Nat) (w:World) (h:(zM5).St most xs S p w) (ho:(zM5).St om ys R r w) (hd:∀ b,S b→¬ R b) (hfo:Few 2 om ys) (hf:zRD 2 most xs (zBz 2 om ys)) :
    Calls Tryz.prog 259 #[.pointer (some ⟨p,0,none⟩),.iface 97 (.pointer (some ⟨r,0,none⟩))] w fun e w'=>zCi zM5 zM5 most om xs ys S R p r w e w':=by
  obtain ⟨ks,hks⟩:∃ ks,ks=zBz 2 om ys:=⟨_,rfl⟩
  have hkc:cntB ks=cntB ys:=by rw [hks]; exact zCz (by decide) (by decide) ys
  have hkt:tot ks=tot ys:=by rw [hks]; exact zFN 2 om ys
  have hO:∀ (w':World) (U:Nat→Prop),Fr U w w'→(∀ b,R b→¬ U b)→StP om ys R r w':=fun w' U hfr hn=>(zM5).fr om ys R r U w w' ho hfr (fun k hk=>hn k hk)
  rw [← hks] at hf
  have htt:=hf.tot
  have hxi:=hf.inR
  have hyi:=hfo.inR
  obtain ⟨tg,G,bs,q,mp,n,bufv,pgs,h1,h2,h3,h4,h5,h6⟩:=h
  obtain ⟨tgo,Go,bso,qo,mpo,no,bufo,pgso,g1,g2,g3,g4,g5,g6⟩:=ho
  refine (zKr G Go bs bso q qo mp mpo n no p r bufv pgs bufo pgso w h1 g1 (fun k hk hk2=>hd k ((h6 k).2 hk) ((g6 k).2 hk2)) h3 g3 (fun x=>?_) (by omega)).mono ?_
  · rw [h2,g2]
    have:=zDX hxi x
    have:=zDX hyi x
    omega
  rintro e w' ⟨tg',G',bs',q',mp',n',bufv',pgs',rfl,k1,k2,k3,k4,k5,k6,k7⟩
  have hfS:Fr S w w':=k5.mono (fun k _ hk=>(h6 k).2 hk)
  refine ⟨rfl,hO w' S hfS (fun b hb hs=>hd b hs hb),zAS q' p bufv' pgs',⟨tg',G',bs',q',mp',n',bufv',pgs',k1,?_,k3,by rw [← hks,zBB,hkt]; omega,fun e=>?_,fun k=>Iff.rfl⟩,hfS.mono (fun _ _ h=>.inl h),fun k hk=>(k6 k hk).imp (fun h=>(h6 k).2 h) id⟩
  · rw [k2,h2,g2,← hks]
    funext i
    rw [zDo,hkc]
  · rw [← hks] at e
    have e1:xs=[]:=(List.append_eq_nil_iff.1 e).1
    have e2:ks=[]:=(List.append_eq_nil_iff.1 e).2
    have e3:tot ys=0:=by rw [← hkt,e2]; rfl
    have e4:ys=[]:=by
      cases ys with
      | nil=>rfl
      | cons z t =>
        have h7:=hfo.pos z (List.mem_cons_self ..)
        have h8:tot (z :: t)=z.2+tot t:=rfl
        omega
    have e5:no=0:=g5 e4
    have e6:bso.length=0:=by omega
    rw [k7 (by rw [e5,e6]; rfl),h5 e1]
end Go.Proofs.YtllaekopaglolaaGreat
end
/-
  MergeWith of two stores of one kind that does not collapse.
-/
section
namespace Go.Proofs.YtllaekopaglolaaGreat
open Go.RowKit Go.Maps
structure zDq {kind:Int} (K:zAD kind) where
  fM:FuncId
  mM:∀ p w,(method 339 K.T (.pointer (some ⟨p,0,none⟩)) "MergeWith").run Tryz.prog w = .ok (fM,.pointer (some ⟨p,0,none⟩)) w
  eM:∀ args w,(callFunc fM args).run Tryz.prog w = .ok (.enter fM args) w
  nM:∀ p w,(nilAhead 339 K.T (.pointer (some ⟨p,0,none⟩)) "MergeWith").run Tryz.prog w = .ok (some false) w
  cM:∀ most om xs ys S R p r w,K.St most xs S p w→K.St om ys R r w→(∀ b,S b→¬ R b)→Few kind om ys→zRD kind most xs (zBz kind om ys) →
    Calls Tryz.prog fM #[.pointer (some ⟨p,0,none⟩),.iface K.T (.pointer (some ⟨r,0,none⟩))] w fun e w'=>zCi K K most om xs ys S R p r w e w'
  tells:∀ most om xs ys S p w,K.St most (xs++zBz kind om ys) S p w→Few kind om ys→InR xs→K.St most (xs++ys) S p w
theorem zGj {kind om:Int} (xs ys:Bins) (h3:kind≠3) (h4:kind≠4):cntB (xs++zBz kind om ys)=cntB (xs++ys):=by funext i; rw [zDo,zDo,zCz h3 h4 ys]
theorem zNl {kind om:Int} (xs ys:Bins):tot (xs++zBz kind om ys)=tot (xs++ys):=by rw [zBB,zBB,zFN]
def mgD:zDq zGV where
  fM:=178
  mM:=fun _ _=>by kernel_rfl
  eM:=enters_of Tryz.func178 (by kernel_rfl) rfl
  nM:=fun _ _=>by kernel_rfl
  cM:=fun most om xs ys S R p r w h ho hd hfo hf=>by
    by_cases hy:ys=[]
    · exact zKt skD most om xs ys S R p r w h ho hd hfo hy
    · exact zKv most om xs ys S R p r w h ho hd hy hfo hf
  tells:=fun most om xs ys S p w h hfo hx=>by
    rcases h with ⟨h1,h2,h3⟩ | ⟨mn,mx,g,L,cp,h1,h2,h3,h4⟩
    · obtain ⟨e1,e2⟩:=List.append_eq_nil_iff.1 h1
      have e3:ys=[]:=Decidable.byContradiction fun h=>zV3 hfo.pos h e2
      exact .inl ⟨by rw [e1,e3]; rfl,h2,h3⟩
    · rw [zGj xs ys (by decide) (by decide),zNl] at h1
      rw [zGj xs ys (by decide) (by decide)] at h2 h3
      exact .inr ⟨mn,mx,g,L,cp,h1,h2,h3,h4⟩
def mgS:zDq zHM where
  fM:=204
  mM:=fun _ _=>by kernel_rfl
  eM:=enters_of Tryz.func204 (by kernel_rfl) rfl
  nM:=fun _ _=>by kernel_rfl
  cM:=fun most om xs ys S R p r w h ho hd hfo hf=>zKu zXi most om xs ys S R p r w h ho hd hfo hf
  tells:=fun most om xs ys S p w h hfo hx=>by
    obtain ⟨b,⟨h1,⟨D,⟨es,ck,g1,g2,g3,g4⟩,hm⟩,hne⟩,hS⟩:=h
    refine ⟨b,⟨h1,⟨D,⟨es,ck,g1,g2,?_,g4⟩,?_⟩,hne⟩,hS⟩
    · have:=zON 1 om ys
      rw [List.length_append] at g3 ⊢; omega
    · rw [← zGj (kind:=1) (om:=om) xs ys (by decide) (by decide)]; exact hm
def mgP:zDq zM5 where
  fM:=259
  mM:=fun _ _=>by kernel_rfl
  eM:=enters_of Tryz.func259 (by kernel_rfl) rfl
  nM:=fun _ _=>by kernel_rfl
  cM:=fun most om xs ys S R p r w h ho hd hfo hf=>zKs most om xs ys S R p r w h ho hd hfo hf
  tells:=fun most om xs ys S p w h hfo hx=>by
    obtain ⟨tg,G,bs,q,mp,n,bufv,pgs,h1,h2,h3,h4,h5,h6⟩:=h
    rw [zGj xs ys (by decide) (by decide)] at h2
    rw [zNl] at h4
    refine ⟨tg,G,bs,q,mp,n,bufv,pgs,h1,h2,h3,h4,fun e=>h5 ?_,h6⟩
    obtain ⟨e1,e2⟩:=List.append_eq_nil_iff.1 e
    rw [e1,e2,zOM]; rfl
end Go.Proofs.YtllaekopaglolaaGreat
end
/-
  withinTolerance at equal numbers; Max at equal numbers.
-/
section
namespace Go.Proofs.YtllaekopaglolaaGreat
open Go.RowKit
set_option maxRecDepth 100000 in
theorem zKx (y:Nat) (w:World) (h1:fgt y 9218868437227405311=false) (h2:zA7 y=true) (h3:feq y 0=false) (h4:fgt y y=false):Calls Tryz.prog 82 #[.float .f64 y,.float .f64 y] w fun e w'=>e = .returned (.float .f64 y)∧w=w':=by
  have k3:(FloatKind.f64.format.order y 0 == some .eq)=false:=h3
  have k4:(FloatKind.f64.format.order y y == some .gt)=false:=h4
  have HN:=fun w=>zAb y w h2
  have HI:=fun w=>zBh y w h1
  clear h1 h2 h3 h4
  have HX:∀ w,Calls Tryz.prog 90 #[.float .f64 y,.float .f64 y] w fun e w'=>e = .returned (.float .f64 y)∧w=w':=by
    intro w
    go_enter Tryz.func90,Tryz.ntmps90
    go_wp2_with (first | (go_at_call 67; (with_reducible refine (HN w).mono ?_); rintro e w' ⟨rfl,rfl⟩) | (go_at_call 68; (with_reducible refine (HI w).mono ?_); rintro e w' ⟨rfl,rfl⟩))
    go_ret
    exact ⟨rfl,rfl⟩
  go_enter Tryz.func82,Tryz.ntmps82
  go_wp2_with (go_at_call 90; refine (HX w).mono ?_; rintro e w' ⟨rfl,rfl⟩)
  go_ret
  exact ⟨rfl,rfl⟩
set_option maxRecDepth 100000 in
theorem zJc (w:World):Calls Tryz.prog 138 #[.float .f64 0,.float .f64 0,.float .f64 4427486594234968593] w fun e w'=>e = .returned (.bool true)∧w=w':=by
  have k0:(FloatKind.f64.format.order 0 0 == some .eq)=true:=by decide +kernel
  have ka:absF 0=0:=by decide +kernel
  have kl:(FloatKind.f64.format.order 0 4427486594234968593 == some .lt||FloatKind.f64.format.order 0 4427486594234968593 == some .eq)=true:=by decide +kernel
  have HA:=fun w=>zDI 0 w
  rw [ka] at HA
  go_enter Tryz.func138,Tryz.ntmps138
  go_wp2_with (go_at_call 80; (with_reducible refine (HA w).mono ?_); rintro e w' ⟨rfl,rfl⟩)
  go_ret
  exact ⟨rfl,rfl⟩
def zSJ (x:Nat):Bool :=
  !(feq x 0) && !(fgt (absF x) 9218868437227405311)&&zA7 (absF x) && !(feq (absF x) 0) && !(fgt (absF x) (absF x)) &&
  ((fsub x x).bind fun d=>(fmul 4427486594234968593 (absF x)).map fun m=>fle (absF d) m) == some true
set_option maxRecDepth 100000 in
theorem zJd (x:Nat) (w:World) (h:zSJ x=true):Calls Tryz.prog 138 #[.float .f64 x,.float .f64 x,.float .f64 4427486594234968593] w fun e w'=>e = .returned (.bool true)∧w=w':=by
  unfold zSJ at h
  simp only [Bool.and_eq_true,Bool.not_eq_true',beq_iff_eq,Option.bind_eq_some_iff,Option.map_eq_some_iff] at h
  obtain ⟨⟨⟨⟨⟨h0,h1⟩,h2⟩,h3⟩,h4⟩,d,hd,m,hm,hl⟩:=h
  have k0:(FloatKind.f64.format.order x 0 == some .eq)=false:=h0
  have kl:(FloatKind.f64.format.order (absF d) m == some .lt||FloatKind.f64.format.order (absF d) m == some .eq)=true:=hl
  have HM:=fun w=>zKx (absF x) w h1 h2 h3 h4
  have HA:=fun w=>zDI x w
  have HD:=fun w=>zDI d w
  have hs:=fun w:World=>run_float_arith (P:=Tryz.prog) w .sub 29 .f64 x x d hd
  have ht:=fun w:World=>run_float_arith (P:=Tryz.prog) w .mul 29 .f64 4427486594234968593 (absF x) m hm
  clear h0 h1 h2 h3 h4 hd hm hl
  revert kl HM HA HD hs ht
  generalize absF x=y
  generalize absF d=z
  intro kl HM HA HD hs ht
  go_enter Tryz.func138,Tryz.ntmps138
  go_wp2_with (first | (go_at_call 80; first | (with_reducible refine (HA w).mono ?_; rintro e w' ⟨rfl,rfl⟩) | (with_reducible refine (HD w).mono ?_; rintro e w' ⟨rfl,rfl⟩)) | (go_at_call 82; (with_reducible refine (HM w).mono ?_); rintro e w' ⟨rfl,rfl⟩))
  go_ret
  exact ⟨rfl,rfl⟩
end Go.Proofs.YtllaekopaglolaaGreat
end
