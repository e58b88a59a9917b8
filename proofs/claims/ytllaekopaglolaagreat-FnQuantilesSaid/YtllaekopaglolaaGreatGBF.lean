/-
  impl.sketched: a sketch of a list of values.
-/
import Derived.Test.YtllaekopaglolaaGreatGBE
import Derived.Test.YtllaekopaglolaaGreatGAR
import Derived.Test.YtllaekopaglolaaGreatProg
section
namespace Go.Proofs.YtllaekopaglolaaGreat
open Go.RowKit
theorem alloc_at {w:World} {o:Obj} {n:Nat} (h:w.heap.size=n):(w.alloc o).heap[n]?=some o:=by subst h; exact heap_alloc_new w o
theorem alloc_old {w:World} {o x:Obj} {k:Nat} (h:w.heap[k]?=some x):(w.alloc o).heap[k]?=some x:=(Below.heap_alloc w o k (lt_of_block h)).trans h
theorem alloc_size {w:World} {o:Obj} {n:Nat} (h:w.heap.size=n):(w.alloc o).heap.size=n+1:=by subst h; simp
def LieQ (w:World) (ao:Option Addr) (xs:Items):Prop :=
  xs=[]∨∃ g off,ao=some ⟨g,off,none⟩∧∀ i,(h:i<xs.length)→w.cell? ⟨g,off+i*2,none⟩=some (.float .f64 xs[i].1)∧w.cell? ⟨g,off+i*2+1,none⟩=some (.float .f64 (nf xs[i].2))
theorem LieQ.later {w w':World} {ao:Option Addr} {ps:Items} (h:LieQ w ao ps) (hb:Below w.heap.size w w'):LieQ w' ao ps:=by
  rcases h with h | ⟨g,off,rfl,h⟩
  · exact .inl h
  · refine .inr ⟨g,off,rfl,fun i hi=>?_⟩
    obtain ⟨h0,h1⟩:=h i hi
    exact ⟨(hb.cell (World.block_lt_of_cell? w _ h0)).trans h0,(hb.cell (World.block_lt_of_cell? w _ h1)).trans h1⟩
section
variable {kind:Int} {K:StoreKind kind} {tP t:TypeId} {idx:Nat→Option Int} {most:Int} {g off mult mn mx:Nat} {B:Rat} {xs:Items} {SP SN:Nat→Prop} {pe pd pt pm pp pn:Nat} {w w':World}
theorem Sk.fr {ps ns:Bins} {z c s k l lo hi:Nat} {S:Nat→Prop} (h:Sk K tP t most g off mult mn mx ps ns z c s k l lo hi SP SN pe pd pt pm pp pn w) (hf:Fr S w w') (hn:∀ b,b=pe∨b=pd∨b=pt∨b=pm∨SP b∨SN b→¬ S b):Sk K tP t most g off mult mn mx ps ns z c s k l lo hi SP SN pe pd pt pm pp pn w' :=
  ⟨hf.heap h.be (hn pe (.inl rfl)),hf.heap h.bd (hn pd (.inr (.inl rfl))),hf.heap h.bt (hn pt (.inr (.inr (.inl rfl)))),hf.heap h.bm (hn pm (.inr (.inr (.inr (.inl rfl))))),K.fr most _ SP pp S w w' h.sp hf (fun b hb=>hn b (.inr (.inr (.inr (.inr (.inl hb)))))),K.fr most _ SN pn S w w' h.sn hf (fun b hb=>hn b (.inr (.inr (.inr (.inr (.inr hb)))))),h.dj,h.own,h.nm⟩
theorem Holds.fr {S:Nat→Prop} (h:Holds K tP t idx most g off mult mn mx B xs SP SN pe pd pt pm pp pn w) (hf:Fr S w w') (hn:∀ b,b=pe∨b=pd∨b=pt∨b=pm∨SP b∨SN b→¬ S b):Holds K tP t idx most g off mult mn mx B xs SP SN pe pd pt pm pp pn w':=by
  obtain ⟨c,s,k,l,lo,hi,h1,h2⟩:=h
  exact ⟨c,s,k,l,lo,hi,h1.fr hf hn,h2⟩
theorem Holds.alloc (h:Holds K tP t idx most g off mult mn mx B xs SP SN pe pd pt pm pp pn w) (o:Obj):Holds K tP t idx most g off mult mn mx B xs SP SN pe pd pt pm pp pn (w.alloc o) :=
  h.fr ((Fr.refl (fun _=>False) w).alloc o) (fun _ _ h=>h)
def From (SP SN:Nat→Prop) (pe pd pt pm b0:Nat):Prop:=b0≤pe∧b0≤pd∧b0≤pt∧b0≤pm∧(∀ b,SP b→b0≤b)∧∀ b,SN b→b0≤b
end
section
variable {kind mk:Int} {K:StoreKind kind} {of_:Nat→Option (Nat × Nat × Nat × Nat × Nat)} {acc:Nat→Option Nat} {idx:Nat→Nat→Nat→Option Int} {lower:Nat→Nat→Int→Option Nat} {value:Nat→Nat→Nat→Int→Option Nat} (M:MapKind mk of_ acc idx lower value)
def SkRel (K:StoreKind kind) (M:MapKind mk of_ acc idx lower value) (most:Int) (g off mult mn mx:Nat) (B:Rat) (xs:Items) (pe pd pt pm pp pn:Nat) (w wr:World) (i:Value):Prop :=
  ∃ (k:Nat) (SP SN:Nat→Prop),k≤xs.length∧i = .int .i64 (k:Int)∧Holds K M.tP M.t (idx off mult) most g off mult mn mx B (xs.take k) SP SN pe pd pt pm pp pn wr∧From SP SN pe pd pt pm w.heap.size∧Below w.heap.size w wr
def Sketched (K:StoreKind kind) (M:MapKind mk of_ acc idx lower value) (most:Int) (g off mult mn mx:Nat) (B:Rat) (xs:Items) (w:World) (e:Ending) (w':World):Prop :=
  ∃ pe pd pt pm pp pn SP SN,e = .returned (.tuple #[.pointer (some ⟨pe,0,none⟩),.bool true])∧Holds K M.tP M.t (idx off mult) most g off mult mn mx B xs SP SN pe pd pt pm pp pn w'∧From SP SN pe pd pt pm w.heap.size∧Below w.heap.size w w'
theorem absI_take (xs:Items) (k:Nat):absI (xs.take k)≤absI xs:=by
  have h:=absI_append (xs.take k) (xs.drop k)
  rw [List.take_append_drop] at h
  have:=absI_nonneg (xs.drop k)
  omega
set_option maxRecDepth 100000 in
set_option maxHeartbeats 2000000 in
theorem sketched_any (most:Int) (a g off mult mn mx cp:Nat) (B:Rat) (ao:Option Addr) (xs:Items) (w:World) (hk:knownB kind most=true) (hmk:of_ a=some (g,off,mult,mn,mx)) (hb:Bnd mn mx) (hi2:IdxOk (idx off mult))
   (hl:LieQ w ao xs) (hx:∀ q∈xs,ItemOk q) (hn:xs.length≤400) (hB0:0≤B) (hB1:B≤1099511627776) (hB:qv (absI xs)≤B) :
    Calls Tryz.prog 16 #[.int .i64 mk,.float .f64 a,.int .i64 kind,.int .i64 most,.slice ao xs.length cp] w fun e w'=>Sketched K M most g off mult mn mx B xs w e w':=by
  have HM:=fun w=>M.made a g off mult mn mx w hmk
  have HN:=fun w=>K.new most w hk
  have HS:=fun pm b0 b1 w h0 h1 h2=>newSk_any K M.tP M.t most g off mult mn mx pm b0 b1 w hk h0 h1 h2
  have HK:=Lib.hid hk
  have HBn:=Lib.hid hb
  have HI:=Lib.hid hi2
  have HL:=Lib.hid hl
  have HX:=Lib.hid hx
  have HB:=Lib.hid hB
  have HB01:=Lib.hid (And.intro hB0 hB1)
  have hmf:∀ (fn:Fn) (first cap:Array Value) (w:World),(Instr.makeFunc fn first cap).run Tryz.prog w = .ok (.func fn first cap) w:=fun _ _ _ _=>rfl
  clear hk hmk hb hi2 hl hx hB hB0 hB1
  go_enter Tryz.func16,Tryz.ntmps16
  go_wp2_with fail
  refine (HM _).mono ?_
  clear HM
  rintro e w1 ⟨pm,rfl,hpm,hm5,hb1⟩
  have hal:∀ o0 o1,((w.alloc o0).alloc o1).heap.size=w.heap.size+2:=fun o0 o1=>by simp
  have hbW:=(((Below.refl w.heap.size w).alloc (Nat.le_refl _) (.cells #[.int .i64 kind] 3)).alloc (by simp) (.cells #[.int .i64 most] 3))
  have q0:w1.cell? ⟨w.heap.size,0,none⟩=some (.int .i64 kind):=cell_of_one ((hb1.5 w.heap.size (by simp; omega)).trans (alloc_old (alloc_at rfl)))
  have q1:w1.cell? ⟨w.heap.size+1,0,none⟩=some (.int .i64 most):=cell_of_one ((hb1.5 (w.heap.size+1) (by simp)).trans (alloc_at (by simp)))
  have hbw1:=hbW.trans (hb1.mono (by simp; omega))
  have hpm':w.heap.size≤pm:=by rw [hal] at hpm; omega
  have HM5:=Lib.hid hm5
  have HB1:=Lib.hid hbw1
  have HPM:=Lib.hid hpm'
  clear hb1 hbW hpm hm5 hbw1 hpm' hal
  go_wp2_with (go_at_call 35; (with_reducible refine (HN _).mono ?_); rintro e w2 ⟨p0,S0,rfl,-,-,hf2⟩; have q0':=hf2.cell q0 (fun h=>h); have q1':=hf2.cell q1 (fun h=>h); have HM6:=Lib.hid (hf2.heap HM5.out (fun h=>h)); have HF2:=Lib.hid hf2; have HSK:=HS pm _ _ _ q0' q1' (HM6.out); clear hf2 q0 q1)
  refine HSK.mono ?_
  clear HSK HS HN q0' q1'
  rintro e w3 ⟨pe,pd,pt,pp,pn,SP,SN,rfl,hsk,h1,h2,h3,h4,hf3⟩
  have hbw2:Below w.heap.size w w2:=HB1.out.trans (HF2.out.below (fun _ h=>h.elim) HB1.out.size)
  have hbw3:Below w.heap.size w w3:=hbw2.trans (hf3.below (fun _ h=>h.elim) hbw2.size)
  have HB3:=Lib.hid hbw3
  have z2:=hbw2.size
  have HF0:Hid (From SP SN pe pd pt pm w.heap.size):=⟨by omega,by omega,by omega,HPM.out,fun b hb=>by have:=h4 b (.inl hb); omega,fun b hb=>by have:=h4 b (.inr hb); omega⟩
  have HH:Hid (Holds K M.tP M.t (idx off mult) most g off mult mn mx B [] SP SN pe pd pt pm pp pn w3):=⟨_,_,_,_,_,_,hsk,stInv_nil HB01.out.1 HB01.out.2⟩
  clear hsk h1 h2 h3 h4 hf3 hbw2 hbw3 z2 HM5 HM6 HB1 HF2
  go_wp2
  go_loopw [37] (fun i wr=>SkRel K M most g off mult mn mx B xs pe pd pt pm pp pn w wr i) (fun i _=>xs.length - (intOf i).toNat)
  case atStart=>exact ⟨0,SP,SN,Nat.zero_le _,rfl,by rw [List.take_zero]; exact HH.out,HF0.out,HB3.out⟩
  case round =>
    obtain ⟨k,SP1,SN1,hk,rfl,hh,hfrom,hb⟩:=hrel
    by_cases hlt:k<xs.length
    · rcases HL.out.later hb with h0 | ⟨gg,off2,rfl,hcell⟩
      · rw [h0] at hlt; exact absurd hlt (Nat.not_lt_zero _)
      obtain ⟨c0,c1⟩:=hcell k hlt
      have hltI:(k:Int)<((xs.length:Nat):Int):=by omega
      have htk:xs.take (k+1)=xs.take k++[xs[k]]:=List.take_succ_eq_append_getElem hlt
      have hq:=HX.out xs[k] (List.getElem_mem hlt)
      have hab:qv (absI (xs.take k++[xs[k]]))≤B:=by
        rw [← htk]
        exact Rat.le_trans (qv_le (absI_take xs (k+1))) HB.out
      have hlk:(xs.take k).length<900:=by rw [List.length_take]; omega
      have HA:=fun o=>esAdd_any M (hh.alloc o) HK.out HBn.out HI.out (fun q hq=>HX.out q (List.mem_of_mem_take hq)) hlk hq hab
      rw [← htk] at HA
      obtain ⟨v,hv⟩:∃ v,v=xs[k].1:=⟨_,rfl⟩
      obtain ⟨n,hnn⟩:∃ n,n=nf xs[k].2:=⟨_,rfl⟩
      rw [← hv] at c0 HA
      rw [← hnn] at c1 HA
      have HA1:=HA (.cells #[.float .f64 v,.float .f64 n] 37)
      have HFM:=Lib.hid hfrom
      have HBB:=Lib.hid hb
      have hzz:=hb.size
      have HZ:=Lib.hid hzz
      clear HA hq hab hlk htk hv hnn hcell hh hfrom hb hzz
      go_wp2_with (go_at_call 38; (with_reducible refine HA1.mono ?_); rintro e w5 ⟨rfl,SP2,SN2,hh2,hf5,hS1,hS2⟩; have HH2:=Lib.hid hh2; have HF5:=Lib.hid hf5; have HS1:=Lib.hid hS1; have HS2:=Lib.hid hS2; clear hh2 hf5 hS1 hS2 HA1)
      go_roundw
      case rel =>
        have hal:(wr.alloc (.cells #[.float .f64 v,.float .f64 n] 37)).heap.size=wr.heap.size+1:=by simp
        have hz:=HZ.out
        obtain ⟨g1,g2,g3,g4,g5,g6⟩:=HFM.out
        refine ⟨k+1,SP2,SN2,by omega,by go_num,HH2.out,⟨g1,g2,g3,g4,fun b hb=>?_,fun b hb=>?_⟩,(HBB.out.alloc hz _).trans (HF5.out.below (fun b hb=>?_) (by omega))⟩
        · rcases HS1.out b hb with h | h
          · exact g5 b h
          · omega
        · rcases HS2.out b hb with h | h
          · exact g6 b h
          · omega
        · rcases hb with h | h | h | h
          · omega
          · omega
          · exact g5 b h
          · exact g6 b h
      case measure=>simp [intOf]; omega
    · obtain rfl:k=xs.length:=by omega
      rw [List.take_length] at hh
      have HH2:=Lib.hid hh
      have HFM:=Lib.hid hfrom
      have HBB:=Lib.hid hb
      clear hlt hh hfrom hb
      go_wp2
      go_ret2
      exact ⟨pe,pd,pt,pm,pp,pn,SP1,SN1,rfl,HH2.out,HFM.out,HBB.out⟩
end
end Go.Proofs.YtllaekopaglolaaGreat
end
/-
  Slices of items (a value and a count,two cells each),plainly: what such a slice reads as; an append of one item.
-/
section
namespace Go.Proofs.YtllaekopaglolaaGreat
open Go.RowKit
def qc:List (Nat × Nat)→List Value
  | []=>[]
  | p :: t=>.float .f64 p.1 :: .float .f64 p.2 :: qc t
theorem qc_length (ps:List (Nat × Nat)):(qc ps).length=ps.length*2:=by
  induction ps with
  | nil=>rfl
  | cons p t ih=>simp [qc,ih]; omega
theorem qc_append (ps qs:List (Nat × Nat)):qc (ps++qs)=qc ps++qc qs:=by
  induction ps with
  | nil=>rfl
  | cons p t ih=>simp [qc,ih]
theorem qc_take (ps:List (Nat × Nat)):∀ n,qc (ps.take n)=(qc ps).take (n*2):=by
  induction ps with
  | nil=>intro n; simp [qc]
  | cons p t ih =>
    intro n
    cases n with
    | zero=>simp [qc]
    | succ n=>simp [qc,ih,Nat.add_mul]
theorem qc_one (ps:List (Nat × Nat)):∀ u∈qc ps,u.oneCell'=true:=by
  induction ps with
  | nil=>intro u h; cases h
  | cons p t ih =>
    intro u h
    rcases List.mem_cons.1 h with rfl | h
    · rfl
    · rcases List.mem_cons.1 h with rfl | h
      · rfl
      · exact ih u h
theorem qc_get0 (ps:List (Nat × Nat)):∀ i,(h:i<ps.length)→(qc ps)[i*2]?=some (.float .f64 ps[i].1):=by
  induction ps with
  | nil=>intro i h; cases h
  | cons p t ih =>
    intro i h
    cases i with
    | zero=>rfl
    | succ i=>rw [show (i+1)*2=i*2+1+1 from by omega]; simpa [qc] using ih i (by simpa using h)
theorem qc_get1 (ps:List (Nat × Nat)):∀ i,(h:i<ps.length)→(qc ps)[i*2+1]?=some (.float .f64 ps[i].2):=by
  induction ps with
  | nil=>intro i h; cases h
  | cons p t ih =>
    intro i h
    cases i with
    | zero=>rfl
    | succ i=>rw [show (i+1)*2+1=i*2+1+1+1 from by omega]; simpa [qc] using ih i (by simpa using h)
def LieR (w:World) (ao:Option Addr) (ps:List (Nat × Nat)):Prop :=
  ps=[]∨∃ g off,ao=some ⟨g,off,none⟩∧∀ i,(h:i<ps.length)→w.cell? ⟨g,off+i*2,none⟩=some (.float .f64 ps[i].1)∧w.cell? ⟨g,off+i*2+1,none⟩=some (.float .f64 ps[i].2)
theorem LieR.later {w w':World} {ao:Option Addr} {ps:List (Nat × Nat)} (h:LieR w ao ps) (hb:Below w.heap.size w w'):LieR w' ao ps:=by
  rcases h with h | ⟨g,off,rfl,h⟩
  · exact .inl h
  · refine .inr ⟨g,off,rfl,fun i hi=>?_⟩
    obtain ⟨h0,h1⟩:=h i hi
    exact ⟨(hb.cell (World.block_lt_of_cell? w _ h0)).trans h0,(hb.cell (World.block_lt_of_cell? w _ h1)).trans h1⟩
def OwnQ (e:TypeId) (w w':World) (v:Value) (ps:List (Nat × Nat)):Prop :=
  (w'.ownsRow 0 e 2 v ps.length (qc ps)∧∀ k,v.ownBlock=some k→w.heap.size≤k)∧Below w.heap.size w w'
theorem OwnQ.nil (e:TypeId) (w:World):OwnQ e w w (.slice none 0 0) [] :=
  ⟨⟨World.ownsRow_nil _ _ _ _,fun k h=>by simp [Value.ownBlock] at h⟩,Below.refl _ _⟩
theorem lieR_of_owns {e:TypeId} {w:World} {ao:Option Addr} {n' c n:Nat} {ps:List (Nat × Nat)} (h:w.ownsRow 0 e 2 (.slice ao n' c) n (qc ps)):n'=ps.length∧n'≤c∧c≤maxLen∧LieR w ao ps:=by
  have hl:ps.length=n:=by have:=h.1; rw [qc_length] at this; omega
  rcases h.2 with ⟨h1,h2⟩ | ⟨g,cap,cur,h1,_,hh,hc,hm,_⟩
  · cases h1
    have:ps=[]:=List.eq_nil_of_length_eq_zero (by omega)
    exact ⟨by omega,Nat.le_refl _,Nat.zero_le _,.inl this⟩
  · cases h1
    refine ⟨hl.symm,hc,hm,.inr ⟨g,0,rfl,fun i hi=>?_⟩⟩
    have hadd:∀ j,(⟨g,0,none⟩:Addr).add j=⟨g,0+j,none⟩:=fun j=>by unfold Addr.add; split <;> simp_all
    have a0:=h.cells (g:=g) rfl (i*2) _ (qc_get0 ps i hi)
    have a1:=h.cells (g:=g) rfl (i*2+1) _ (qc_get1 ps i hi)
    rw [hadd] at a0 a1
    exact ⟨a0,a1⟩
section
variable {P:Program}
theorem wpList_append_item (w:World) (B:Nat) (hB:w.heap.size=B) (i:Nat) (b:Nat) {ops:Array Oper} {rest:List Oper} {o:Oper} {a:Act} {Q:Exit→Act→World→Prop} (hgd:o.guard=none) (s x:Operand) (tS tE:TypeId)
    (ho:o.op = .call { callee:=.builtin .append,args:=#[s,x],argTypes:=#[tS,tS] })
    (z:Value) (bytes:Nat) (ht:P.underlying tS=some (.slice tE)) (hinfo:(P.info? tE).map (fun i=>(i.zero,i.size,i.bytes))=some (some z,2,bytes)) (hz:z.cells.size=2)
    (v:Value) (n:Nat) (ps:List (Nat × Nat)) (hs:a.eval s=v) (hown:w.ownsRow 0 tE 2 v n (qc ps)) (hx:a.eval x = .slice (some ⟨B,0,none⟩) 1 1) (hn:n<1000000000000) (hby:bytes≤32)
    (h:∀ ao cp w1,w1.ownsRow 0 tE 2 (.slice ao (n+1) cp) (n+1) (qc (ps++[(i,b)]))→(w.alloc (.cells #[.float .f64 i,.float .f64 b] tE)).grownBy w1 v.ownBlock →
      ((Value.slice ao (n+1) cp).ownBlock=v.ownBlock∨(Value.slice ao (n+1) cp).ownBlock=some (B+1))→wpList P ops Q rest (a.put o.dst (.slice ao (n+1) cp)) w1):wpList P ops Q (o :: rest) a (w.alloc (.cells #[.float .f64 i,.float .f64 b] tE)):=by
  subst hB
  obtain ⟨i0,hi,hz0,hz1,hz2⟩:=info_parts hinfo
  have hnew:∀ j u,(qc [(i,b)])[j]?=some u→(w.alloc (.cells #[.float .f64 i,.float .f64 b] tE)).cell? ((⟨w.heap.size,0,none⟩:Addr).add j)=some u:=by
    intro j u hj
    have hadd:(⟨w.heap.size,0,none⟩:Addr).add j=⟨w.heap.size,0+j,none⟩:=by unfold Addr.add; split <;> simp_all
    rw [hadd,cell_of_row _ _ _ _ _ _ (heap_alloc_new w (.cells #[.float .f64 i,.float .f64 b] tE))]
    simpa [qc] using hj
  refine wpList_append_own2 _ hgd s x tS ho tE i0 z 2 bytes ht hi hz0 hz1 hz2 hz (by decide) v n (qc ps) hs (hown.alloc _) ⟨w.heap.size,0,none⟩ 1 1 (qc [(i,b)]) hx rfl hnew (qc_one _) ?_ ?_ ?_
  · unfold maxLen; omega
  · have:(n+1)*bytes≤(n+1)*32:=Nat.mul_le_mul_left _ hby
    omega
  · intro v' w1 h1 h2 h3
    rw [← qc_append] at h1
    obtain ⟨ao,n1,cp,rfl⟩:=owns_slice h1
    obtain rfl:=owns_len h1
    exact h ao cp w1 h1 h2 (by simpa using h3)
end
theorem OwnQ.step {e:TypeId} {w wr w1:World} {v v':Value} {ps:List (Nat × Nat)} {i:Nat} {b:Nat} {o:Obj} (h:OwnQ e w wr v ps)
    (hown':w1.ownsRow 0 e 2 v' (ps.length+1) (qc (ps++[(i,b)]))) (hg:(wr.alloc o).grownBy w1 v.ownBlock) (hv:v'.ownBlock=v.ownBlock∨v'.ownBlock=some (wr.heap.size+1)) :
    OwnQ e w w1 v' (ps++[(i,b)]):=by
  have hz:=h.2.size
  refine ⟨⟨by simpa using hown',?_⟩,(h.2.alloc hz _).grown hg (by simp; omega) h.1.2⟩
  intro k hk
  rcases hv with hv | hv
  · exact h.1.2 k (hv ▸ hk)
  · rw [hv] at hk; cases hk; omega
theorem OwnQ.step2 {e:TypeId} {w wr w1:World} {v v':Value} {ps:List (Nat × Nat)} {i:Nat} {b:Nat} {o1 o2:Obj} (h:OwnQ e w wr v ps)
    (hown':w1.ownsRow 0 e 2 v' (ps.length+1) (qc (ps++[(i,b)]))) (hg:((wr.alloc o1).alloc o2).grownBy w1 v.ownBlock) (hv:v'.ownBlock=v.ownBlock∨v'.ownBlock=some (wr.heap.size+1+1)) :
    OwnQ e w w1 v' (ps++[(i,b)]):=by
  have hz:=h.2.size
  refine ⟨⟨by simpa using hown',?_⟩,((h.2.alloc hz _).alloc (by simp; omega) _).grown hg (by simp; omega) h.1.2⟩
  intro k hk
  rcases hv with hv | hv
  · exact h.1.2 k (hv ▸ hk)
  · rw [hv] at hk; cases hk; omega
def fi (xs:Items):List (Nat × Nat):=xs.map fun p=>(p.1,nf p.2)
theorem fi_length (xs:Items):(fi xs).length=xs.length:=by simp [fi]
theorem fi_append (xs ys:Items):fi (xs++ys)=fi xs++fi ys:=by simp [fi]
theorem fi_take (xs:Items) (n:Nat):fi (xs.take n)=(fi xs).take n:=by simp [fi,List.map_take]
theorem fi_get (xs:Items) (k:Nat) (h:k<(fi xs).length):(fi xs)[k]=(xs[k]'(by simpa [fi] using h) |>.1,nf (xs[k]'(by simpa [fi] using h)).2):=by simp [fi]
theorem lieQ_fi {w:World} {ao:Option Addr} {xs:Items} (h:LieR w ao (fi xs)):LieQ w ao xs:=by
  rcases h with h | ⟨g,off,h,hc⟩
  · left; exact List.eq_nil_of_length_eq_zero (by rw [← fi_length,h]; rfl)
  · refine .inr ⟨g,off,h,fun i hi=>?_⟩
    have:=hc i (by rw [fi_length]; exact hi)
    rwa [fi_get] at this
theorem ownsQ_some {e:TypeId} {w:World} {ao:Option Addr} {n' c n:Nat} {ps:List (Nat × Nat)} (h:w.ownsRow 0 e 2 (.slice ao n' c) n (qc ps)) (h0:0<ps.length) :
    ∃ g,ao=some ⟨g,0,none⟩∧(∀ i,(h:i<ps.length)→w.cell? ⟨g,i*2,none⟩=some (.float .f64 ps[i].1)∧w.cell? ⟨g,i*2+1,none⟩=some (.float .f64 ps[i].2))∧∀ j,w.frozen? ⟨g,j,none⟩=false:=by
  obtain ⟨_,_,_,hl⟩:=lieR_of_owns h
  rcases h.2 with ⟨h1,h2⟩ | ⟨g,cap,cur,h1,_,hh,_⟩
  · have:=h.1; rw [qc_length] at this; omega
  · cases h1
    refine ⟨g,rfl,?_,fun j=>frozen_of_row w g j cur _ hh⟩
    rcases hl with h | ⟨g',off,h,hc⟩
    · rw [h] at h0; simp at h0
    · cases h; intro i hi; have:=hc i hi; rwa [Nat.zero_add] at this
theorem item_new (w:World) (x:Nat) (b:Nat) (t:TypeId):∀ j u,(qc [(x,b)])[j]?=some u→((w.alloc (.cells #[.float .f64 x,.float .f64 b] t)).drew).cell? ((⟨w.heap.size,0,none⟩:Addr).add j)=some u:=by
  intro j u hj
  have hadd:(⟨w.heap.size,0,none⟩:Addr).add j=⟨w.heap.size,0+j,none⟩:=by unfold Addr.add; split <;> simp_all
  rw [hadd]
  show (w.alloc (.cells #[.float .f64 x,.float .f64 b] t)).cell? _=_
  rw [cell_of_row _ _ _ _ _ _ (heap_alloc_new w (.cells #[.float .f64 x,.float .f64 b] t))]
  simpa [qc] using hj
theorem ownsQ_prefix {e:TypeId} {w:World} {ao:Option Addr} {n c m:Nat} {L:Items} (h:w.ownsRow 0 e 2 (.slice ao n c) n (qc (fi L))) (hm:m≤n):w.ownsRow 0 e 2 (.slice ao m c) m (qc (fi (L.take m))):=by
  obtain ⟨h1,h2⟩:=h
  rw [qc_length,fi_length] at h1
  have hl:(qc (fi (L.take m))).length=m*2:=by rw [qc_length,fi_length,List.length_take]; omega
  refine ⟨hl,?_⟩
  rcases h2 with ⟨h2,h3⟩ | ⟨g,cap,cur,h2,hb,hg,hn,hcm,hs,ht⟩
  · cases h2
    have:m=0:=by omega
    subst this
    exact .inl ⟨rfl,rfl⟩
  · cases h2
    refine .inr ⟨g,c,cur,rfl,hb,hg,by omega,hcm,hs,?_⟩
    rw [fi_take,qc_take,← ht,List.take_take]
    congr 1
    omega
theorem item_grow {e:TypeId} {w W w1 w2:World} {v v2:Value} {n':Nat} {ps:List (Nat × Nat)} (hb:Below w.heap.size w W) (h1:Below W.heap.size W w1) (hv:∀ k,v.ownBlock=some k→w.heap.size≤k)
   (hown:w2.ownsRow 0 e 2 v2 n' (qc ps)) (hn:n'=ps.length) (hg:w1.grownBy w2 v.ownBlock) (hk:v2.ownBlock=v.ownBlock∨v2.ownBlock=some w1.heap.size):OwnQ e w w2 v2 ps:=by
  subst hn
  have hz:=hb.size
  have hz1:=h1.size
  refine ⟨⟨hown,?_⟩,((hb.trans (h1.mono hz)).grown hg (by omega) hv)⟩
  intro k h
  rcases hk with hk | hk
  · exact hv k (hk ▸ h)
  · rw [hk] at h; cases h; omega
theorem tail_items {w:World} {e:TypeId} {g n c m:Nat} {L:Items} (h:w.ownsRow 0 e 2 (.slice (some ⟨g,0,none⟩) n c) n (qc (fi L))):∀ j u,(qc (fi (L.drop m)))[j]?=some u→w.cell? ((⟨g,m*2,none⟩:Addr).add j)=some u:=by
  intro j u hj
  have hadd:∀ a j,(⟨g,a,none⟩:Addr).add j=⟨g,a+j,none⟩:=fun a j=>by unfold Addr.add; split <;> simp_all
  have hsplit:qc (fi L)=qc (fi (L.take m))++qc (fi (L.drop m)):=by rw [← qc_append,← fi_append,List.take_append_drop]
  by_cases hm:m≤L.length
  · have hl:(qc (fi (L.take m))).length=m*2:=by rw [qc_length,fi_length,List.length_take]; omega
    have:=h.cells (g:=g) rfl (m*2+j) u (by rw [hsplit,List.getElem?_append_right (by omega),hl,Nat.add_sub_cancel_left]; exact hj)
    rw [hadd,Nat.zero_add] at this
    rw [hadd]
    exact this
  · rw [List.drop_eq_nil_of_le (by omega)] at hj
    simp [fi,qc] at hj
end Go.Proofs.YtllaekopaglolaaGreat
end
/-
  laws.items: the items of the reference.
-/
section
namespace Go.Proofs.YtllaekopaglolaaGreat
open Go.RowKit
theorem Tryz.infoSI:(Tryz.prog.info? 38).map (fun i=>(i.zero,i.size,i.bytes))=some (some (.agg #[.float .f64 0,.float .f64 0]),2,16):=by kernel_rfl
def GivesQ (t:TypeId) (ps:List (Nat × Nat)) (w:World) (e:Ending) (w':World):Prop :=
  ∃ ao c,e = .returned (.slice ao ps.length c)∧OwnQ t w w' (.slice ao ps.length c) ps
def ItemsRel (ps:List (Nat × Nat)) (w wr:World) (v i:Value):Prop :=
  ∃ k ao c,k≤ps.length∧i = .int .i64 (k:Int)∧v = .slice ao k c∧OwnQ 38 w wr (.slice ao k c) (ps.take k)
set_option maxRecDepth 100000 in
set_option maxHeartbeats 400000 in
theorem items_any (ao:Option Addr) (cp:Nat) (ps:List (Nat × Nat)) (w:World) (hl:LieR w ao ps) (hn:ps.length≤2147483647) :
    Calls Tryz.prog 5 #[.slice ao ps.length cp] w fun e w'=>GivesQ 38 ps w e w':=by
  have HL:=Lib.hid hl; clear hl
  go_enter Tryz.func5,Tryz.ntmps5
  go_wp2
  go_loopw [3,8] (fun v i wr=>ItemsRel ps w wr v i) (fun _ i _=>ps.length - (intOf i).toNat)
  case atStart=>exact ⟨0,none,0,by omega,rfl,rfl,OwnQ.nil _ _⟩
  case round =>
    obtain ⟨k,ar,cr,hk,rfl,rfl,hown⟩:=hrel
    by_cases hlt:k<ps.length
    · have hbw:=hown.2
      have hlie:=HL.out.later hbw
      rcases hlie with h0 | ⟨g,off,rfl,hcell⟩
      · rw [h0] at hlt; exact absurd hlt (Nat.not_lt_zero _)
      obtain ⟨c0,c1⟩:=hcell k hlt
      obtain ⟨x,hx⟩:∃ x,x=ps[k].1:=⟨_,rfl⟩
      obtain ⟨b,hb⟩:∃ b,b=ps[k].2:=⟨_,rfl⟩
      rw [← hx] at c0
      rw [← hb] at c1
      have HX:=Lib.hid hx
      have HB:=Lib.hid hb
      have hz:=hown.2.size
      have HO:=Lib.hid hown
      have ho1:=hown.1.1
      have hkl:(ps.take k).length=k:=by simp; omega
      rw [hkl] at ho1
      clear hx hb hown hcell hbw hkl
      go_wp2_with (at_builtin; refine wpList_append_item (wr.alloc (.cells #[.float .f64 x,.float .f64 b] 37)) (wr.heap.size+1) (by simp) x b rfl _ _ 24 38 rfl (.agg #[.float .f64 0,.float .f64 0]) 16 Tryz.underlying24 Tryz.infoSI rfl (.slice ar k cr) k (ps.take k) rfl (ho1.alloc _) rfl (by omega) (by decide) ?_; intro ao1 cp1 w1 hown' hgrow hblk)
      have hst:=HO.out.step2 (o1:=.cells #[.float .f64 x,.float .f64 b] 37) (o2:=.cells #[.float .f64 x,.float .f64 b] 38) (by rw [show (ps.take k).length=k from by simp; omega]; exact hown') hgrow hblk
      have HS:=Lib.hid hst
      clear hst hown' hgrow hblk ho1 c0 c1
      go_wp2
      go_roundw
      case rel =>
        refine ⟨k+1,ao1,cp1,by omega,by go_num,rfl,?_⟩
        have:=HS.out
        rw [HX.out,HB.out] at this
        rw [List.take_succ_eq_append_getElem hlt]
        exact this
      case measure=>simp [intOf]; omega
    · obtain rfl:k=ps.length:=by omega
      have HO:=Lib.hid hown
      clear hown hlt
      go_wp2
      go_ret
      refine ⟨ar,cr,rfl,?_⟩
      have:=HO.out
      rwa [List.take_length] at this
end Go.Proofs.YtllaekopaglolaaGreat
end
