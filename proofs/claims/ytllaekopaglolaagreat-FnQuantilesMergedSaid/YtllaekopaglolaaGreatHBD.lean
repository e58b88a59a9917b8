/-
  A mapping of a kind,as an interface's value: its methods,for all kinds alike.
-/
import Derived.Test.YtllaekopaglolaaGreatHAH
import Derived.Test.YtllaekopaglolaaGreatHBC
import Derived.Test.YtllaekopaglolaaGreatHAL
import Derived.Deep.RegionLaw
import Derived.Shelf.Abstract
import Derived.Test.YtllaekopaglolaaGreatHAK
import Derived.Test.YtllaekopaglolaaGreatHAM
import Derived.Test.YtllaekopaglolaaGreatHAR
section
namespace Go.Proofs.YtllaekopaglolaaGreat
open Go.RowKit
structure zBK (kind:Int) (of_:Nat→Option (Nat × Nat × Nat × Nat × Nat)) (acc:Nat→Option Nat) (idx:Nat→Nat→Nat→Option Int) (lower:Nat→Nat→Int→Option Nat) (value:Nat→Nat→Nat→Int→Option Nat) where
  tP:TypeId
  t:TypeId
  fIdx:FuncId
  fVal:FuncId
  fLow:FuncId
  fAcc:FuncId
  fMin:FuncId
  fMax:FuncId
  ht:t≠29
  mIdx:∀ p w,(method 339 tP (.pointer (some ⟨p,0,none⟩)) "Index").run Tryz.prog w = .ok (fIdx,.pointer (some ⟨p,0,none⟩)) w
  mVal:∀ p w,(method 339 tP (.pointer (some ⟨p,0,none⟩)) "Value").run Tryz.prog w = .ok (fVal,.pointer (some ⟨p,0,none⟩)) w
  mLow:∀ p w,(method 339 tP (.pointer (some ⟨p,0,none⟩)) "LowerBound").run Tryz.prog w = .ok (fLow,.pointer (some ⟨p,0,none⟩)) w
  mAcc:∀ p w,(method 339 tP (.pointer (some ⟨p,0,none⟩)) "RelativeAccuracy").run Tryz.prog w = .ok (fAcc,.pointer (some ⟨p,0,none⟩)) w
  mMin:∀ p w,(method 339 tP (.pointer (some ⟨p,0,none⟩)) "MinIndexableValue").run Tryz.prog w = .ok (fMin,.pointer (some ⟨p,0,none⟩)) w
  mMax:∀ p w,(method 339 tP (.pointer (some ⟨p,0,none⟩)) "MaxIndexableValue").run Tryz.prog w = .ok (fMax,.pointer (some ⟨p,0,none⟩)) w
  eIdx:∀ args w,(callFunc fIdx args).run Tryz.prog w = .ok (.enter fIdx args) w
  eVal:∀ args w,(callFunc fVal args).run Tryz.prog w = .ok (.enter fVal args) w
  eLow:∀ args w,(callFunc fLow args).run Tryz.prog w = .ok (.enter fLow args) w
  eAcc:∀ args w,(callFunc fAcc args).run Tryz.prog w = .ok (.enter fAcc args) w
  eMin:∀ args w,(callFunc fMin args).run Tryz.prog w = .ok (.enter fMin args) w
  eMax:∀ args w,(callFunc fMax args).run Tryz.prog w = .ok (.enter fMax args) w
  made:∀ a g off mult mn mx w,of_ a=some (g,off,mult,mn,mx)→Calls Tryz.prog 34 #[.int .i64 kind,.float .f64 a] w fun e w'=>zVD tP t g off mult mn mx w e w'
  cIdx:∀ m g off mult mn mx v i w,Map5 t w m g off mult mn mx→idx off mult v=some i→Calls Tryz.prog fIdx #[.pointer (some ⟨m,0,none⟩),.float .f64 v] w fun e w'=>zDz (.int .i64 i) w e w'
  cVal:∀ m g off mult mn mx i r w,Map5 t w m g off mult mn mx→value g off mult i=some r→Calls Tryz.prog fVal #[.pointer (some ⟨m,0,none⟩),.int .i64 i] w fun e w'=>zDz (.float .f64 r) w e w'
  cLow:∀ m g off mult mn mx i r w,Map5 t w m g off mult mn mx→lower off mult i=some r→Calls Tryz.prog fLow #[.pointer (some ⟨m,0,none⟩),.int .i64 i] w fun e w'=>zDz (.float .f64 r) w e w'
  cAcc:∀ m g off mult mn mx r w,Map5 t w m g off mult mn mx→acc g=some r→Calls Tryz.prog fAcc #[.pointer (some ⟨m,0,none⟩)] w fun e w'=>e = .returned (.float .f64 r)∧w=w'
  cMin:∀ m g off mult mn mx w,Map5 t w m g off mult mn mx→Calls Tryz.prog fMin #[.pointer (some ⟨m,0,none⟩)] w fun e w'=>e = .returned (.float .f64 mn)∧w=w'
  cMax:∀ m g off mult mn mx w,Map5 t w m g off mult mn mx→Calls Tryz.prog fMax #[.pointer (some ⟨m,0,none⟩)] w fun e w'=>e = .returned (.float .f64 mx)∧w=w'
def zOE:zBK 0 zGC zEK zCv zCY zD1 where
  tP:=84
  t:=143
  fIdx:=132
  fVal:=137
  fLow:=133
  fAcc:=136
  fMin:=135
  fMax:=134
  ht:=by decide
  mIdx:=fun p w=>by kernel_rfl
  mVal:=fun p w=>by kernel_rfl
  mLow:=fun p w=>by kernel_rfl
  mAcc:=fun p w=>by kernel_rfl
  mMin:=fun p w=>by kernel_rfl
  mMax:=fun p w=>by kernel_rfl
  eIdx:=fun args w=>zAf Tryz.func132 (by kernel_rfl) rfl args w
  eVal:=fun args w=>zAf Tryz.func137 (by kernel_rfl) rfl args w
  eLow:=fun args w=>zAf Tryz.func133 (by kernel_rfl) rfl args w
  eAcc:=fun args w=>zAf Tryz.func136 (by kernel_rfl) rfl args w
  eMin:=fun args w=>zAf Tryz.func135 (by kernel_rfl) rfl args w
  eMax:=fun args w=>zAf Tryz.func134 (by kernel_rfl) rfl args w
  made:=fun a g off mult mn mx w h=>zPJ a g off mult mn mx w h
  cIdx:=fun m g off mult mn mx v i w hc h=>zQg m g off mult mn mx v i w hc h
  cVal:=fun m g off mult mn mx i r w hc h=>zJI m g off mult mn mx i r w hc h
  cLow:=fun m g off mult mn mx i r w hc h=>zGF m g off mult mn mx i r w hc h
  cAcc:=fun m g off mult mn mx r w hc h=>zIX m g off mult mn mx r w hc h
  cMin:=fun m g off mult mn mx w hc=>zJj m g off mult mn mx w hc
  cMax:=fun m g off mult mn mx w hc=>zKm m g off mult mn mx w hc
def zOF:zBK 1 zGD zEL zCw zCZ zD2 where
  tP:=87
  t:=144
  fIdx:=141
  fVal:=146
  fLow:=142
  fAcc:=145
  fMin:=144
  fMax:=143
  ht:=by decide
  mIdx:=fun p w=>by kernel_rfl
  mVal:=fun p w=>by kernel_rfl
  mLow:=fun p w=>by kernel_rfl
  mAcc:=fun p w=>by kernel_rfl
  mMin:=fun p w=>by kernel_rfl
  mMax:=fun p w=>by kernel_rfl
  eIdx:=fun args w=>zAf Tryz.func141 (by kernel_rfl) rfl args w
  eVal:=fun args w=>zAf Tryz.func146 (by kernel_rfl) rfl args w
  eLow:=fun args w=>zAf Tryz.func142 (by kernel_rfl) rfl args w
  eAcc:=fun args w=>zAf Tryz.func145 (by kernel_rfl) rfl args w
  eMin:=fun args w=>zAf Tryz.func144 (by kernel_rfl) rfl args w
  eMax:=fun args w=>zAf Tryz.func143 (by kernel_rfl) rfl args w
  made:=fun a g off mult mn mx w h=>zPK a g off mult mn mx w h
  cIdx:=fun m g off mult mn mx v i w hc h=>zQh m g off mult mn mx v i w hc h
  cVal:=fun m g off mult mn mx i r w hc h=>zJJ m g off mult mn mx i r w hc h
  cLow:=fun m g off mult mn mx i r w hc h=>zGG m g off mult mn mx i r w hc h
  cAcc:=fun m g off mult mn mx r w hc h=>zIY m g off mult mn mx r w hc h
  cMin:=fun m g off mult mn mx w hc=>zJk m g off mult mn mx w hc
  cMax:=fun m g off mult mn mx w hc=>zKn m g off mult mn mx w hc
def zOG:zBK 2 zGE zEM zCx zCa zD3 where
  tP:=90
  t:=145
  fIdx:=156
  fVal:=161
  fLow:=157
  fAcc:=160
  fMin:=159
  fMax:=158
  ht:=by decide
  mIdx:=fun p w=>by kernel_rfl
  mVal:=fun p w=>by kernel_rfl
  mLow:=fun p w=>by kernel_rfl
  mAcc:=fun p w=>by kernel_rfl
  mMin:=fun p w=>by kernel_rfl
  mMax:=fun p w=>by kernel_rfl
  eIdx:=fun args w=>zAf Tryz.func156 (by kernel_rfl) rfl args w
  eVal:=fun args w=>zAf Tryz.func161 (by kernel_rfl) rfl args w
  eLow:=fun args w=>zAf Tryz.func157 (by kernel_rfl) rfl args w
  eAcc:=fun args w=>zAf Tryz.func160 (by kernel_rfl) rfl args w
  eMin:=fun args w=>zAf Tryz.func159 (by kernel_rfl) rfl args w
  eMax:=fun args w=>zAf Tryz.func158 (by kernel_rfl) rfl args w
  made:=fun a g off mult mn mx w h=>zPL a g off mult mn mx w h
  cIdx:=fun m g off mult mn mx v i w hc h=>zQi m g off mult mn mx v i w hc h
  cVal:=fun m g off mult mn mx i r w hc h=>zJK m g off mult mn mx i r w hc h
  cLow:=fun m g off mult mn mx i r w hc h=>zGH m g off mult mn mx i r w hc h
  cAcc:=fun m g off mult mn mx r w hc h=>zIZ m g off mult mn mx r w hc h
  cMin:=fun m g off mult mn mx w hc=>zJl m g off mult mn mx w hc
  cMax:=fun m g off mult mn mx w hc=>zKo m g off mult mn mx w hc
end Go.Proofs.YtllaekopaglolaaGreat
end
/-
  A sketch: what it is; a new one.
-/
section
namespace Go.Proofs.YtllaekopaglolaaGreat
open Go.RowKit
structure Sk {kind:Int} (K:zAD kind) (tP t:TypeId) (most:Int) (g off mult mn mx:Nat) (ps ns:Bins) (z c s k l lo hi:Nat) (SP SN:Nat→Prop) (pe pd pt pm pp pn:Nat) (w:World):Prop where
  be:w.heap[pe]?=some (.cells #[.pointer (some ⟨pd,0,none⟩),.pointer (some ⟨pt,0,none⟩)] 79 (0,0))
  bd:w.heap[pd]?=some (.cells #[.iface tP (.pointer (some ⟨pm,0,none⟩)),.iface K.T (.pointer (some ⟨pp,0,none⟩)),.iface K.T (.pointer (some ⟨pn,0,none⟩)),.float .f64 (nf z)] 108 (0,0))
  bt:St6 w pt c s k l lo hi
  bm:Map5 t w pm g off mult mn mx
  sp:K.St most ps SP pp w
  sn:K.St most ns SN pn w
  dj:∀ b,SP b→¬ SN b
  own:∀ b,SP b∨SN b→b≠pe∧b≠pd∧b≠pt∧b≠pm
  nm:pm≠pe∧pm≠pd∧pm≠pt
set_option maxRecDepth 100000 in
theorem zN0 {kind:Int} (K:zAD kind) (most:Int) (b0 b1:Nat) (w:World) (hk:zBg kind most=true) (h0:w.cell? ⟨b0,0,none⟩=some (.int .i64 kind)) (h1:w.cell? ⟨b1,0,none⟩=some (.int .i64 most)) :
    Calls Tryz.prog 37 #[.pointer (some ⟨b0,0,none⟩),.pointer (some ⟨b1,0,none⟩)] w fun e w'=>∃ p S,e = .returned (.iface K.T (.pointer (some ⟨p,0,none⟩)))∧K.St most [] S p w'∧(∀ k,S k→w.heap.size≤k)∧Fr (fun _=>False) w w':=by
  have HN:=fun w=>K.new most w hk
  clear hk
  go_enter Tryz.func37,Tryz.ntmps37
  go_wp2_with (go_at_call 35; (with_reducible refine (HN _).mono ?_); rintro e w' ⟨p,S,rfl,hs,hS,hf⟩; have HS:=Lib.hid hs; have HL:=Lib.hid hS; have HF:=Lib.hid hf; clear hs hS hf)
  go_ret
  exact ⟨p,S,rfl,HS.out,HL.out,HF.out⟩
set_option maxRecDepth 100000 in
theorem zSI (tP T:TypeId) (pm pp pn:Nat) (w:World):Calls Tryz.prog 74 #[.iface tP (.pointer (some ⟨pm,0,none⟩)),.iface T (.pointer (some ⟨pp,0,none⟩)),.iface T (.pointer (some ⟨pn,0,none⟩))] w fun e w'=>∃ p,e = .returned (.pointer (some ⟨p,0,none⟩))∧p=w.heap.size∧w'.heap[p]?=some (.cells #[.iface tP (.pointer (some ⟨pm,0,none⟩)),.iface T (.pointer (some ⟨pp,0,none⟩)),.iface T (.pointer (some ⟨pn,0,none⟩)),.float .f64 0] 108 (0,0))∧Below w.heap.size w w':=by
  go_enter Tryz.func74,Tryz.ntmps74
  go_wp2
  go_ret
  exact ⟨_,rfl,rfl,heap_alloc_new _ _,(Below.refl _ _).alloc (Nat.le_refl _) _⟩
def zXs {kind:Int} (K:zAD kind) (most:Int) (tP:TypeId) (pm:Nat) (w:World) (e:Ending) (w':World):Prop :=
  ∃ p pp pn SP SN,e = .returned (.pointer (some ⟨p,0,none⟩))∧w.heap.size≤p∧w'.heap[p]?=some (.cells #[.iface tP (.pointer (some ⟨pm,0,none⟩)),.iface K.T (.pointer (some ⟨pp,0,none⟩)),.iface K.T (.pointer (some ⟨pn,0,none⟩)),.float .f64 0] 108 (0,0)) ∧
    K.St most [] SP pp w'∧K.St most [] SN pn w'∧(∀ b,SP b→w.heap.size≤b∧b<p∧¬ SN b)∧(∀ b,SN b→w.heap.size≤b∧b<p)∧Fr (fun _=>False) w w'
set_option maxRecDepth 100000 in
set_option maxHeartbeats 800000 in
theorem zKe {kind:Int} (K:zAD kind) (most:Int) (tP:TypeId) (pm b0 b1:Nat) (w:World) (hk:zBg kind most=true) (h0:w.cell? ⟨b0,0,none⟩=some (.int .i64 kind)) (h1:w.cell? ⟨b1,0,none⟩=some (.int .i64 most)) :
    Calls Tryz.prog 59 #[.iface tP (.pointer (some ⟨pm,0,none⟩)),.func (.func 37) #[] #[.pointer (some ⟨b0,0,none⟩),.pointer (some ⟨b1,0,none⟩)]] w fun e w'=>zXs K most tP pm w e w':=by
  have H1:=zN0 K most b0 b1 w hk h0 h1
  have HL0:=World.block_lt_of_cell? w _ h0
  have HL1:=World.block_lt_of_cell? w _ h1
  have H2:∀ w',Fr (fun _=>False) w w'→Calls Tryz.prog 37 #[.pointer (some ⟨b0,0,none⟩),.pointer (some ⟨b1,0,none⟩)] w' fun e w''=>∃ p S,e = .returned (.iface K.T (.pointer (some ⟨p,0,none⟩)))∧K.St most [] S p w''∧(∀ k,S k→w'.heap.size≤k)∧Fr (fun _=>False) w' w'' :=
    fun w' hf=>zN0 K most b0 b1 w' hk (hf.cell h0 (fun h=>h)) (hf.cell h1 (fun h=>h))
  have hcf:∀ args w,(callFunc 37 args).run Tryz.prog w = .ok (.enter 37 args) w:=fun args w=>zAf Tryz.func37 (by kernel_rfl) rfl args w
  clear hk h0 h1
  go_enter Tryz.func59,Tryz.ntmps59
  go_wp2_with fail
  refine H1.mono ?_
  clear H1
  rintro e w1 ⟨pp,SP,rfl,hsp,hSP,hf1⟩
  have H3:=H2 w1 hf1
  have HSP:=Lib.hid hsp
  have HLP:=Lib.hid hSP
  have HF1:=Lib.hid hf1
  clear hsp hSP hf1 H2
  go_wp2_with fail
  refine H3.mono ?_
  clear H3
  rintro e w2 ⟨pn,SN,rfl,hsn,hSN,hf2⟩
  have HSN:=Lib.hid hsn
  have HLN:=Lib.hid hSN
  have HF2:=Lib.hid hf2
  have H4:=zSI tP K.T pm pp pn w2
  clear hsn hSN hf2
  go_wp2_with (go_at_call 74; (with_reducible refine H4.mono ?_); rintro e w3 ⟨p,rfl,rfl,h3,hb3⟩; have H3:=Lib.hid h3; have HB3:=Lib.hid hb3; clear h3 hb3 H4)
  go_ret
  have f23:Fr (fun _=>False) w2 w3:=(Fr.of_below HB3.out).mono (fun i hi h=>absurd hi (Nat.not_lt.2 h))
  have lp:=K.lt most [] SP pp w1 HSP.out
  have ln:=K.lt most [] SN pn w2 HSN.out
  have z1:=HF1.out.size
  have z2:=HF2.out.size
  refine ⟨w2.heap.size,pp,pn,SP,SN,rfl,by omega,H3.out,K.fr most [] SP pp _ w1 w3 HSP.out (HF2.out.trans f23 (fun _ _ h=>h) (fun _ _ h=>h)) (fun _ _ h=>h),K.fr most [] SN pn _ w2 w3 HSN.out f23 (fun _ _ h=>h),fun b hb=>⟨HLP.out b hb,?_,fun hn=>?_⟩,fun b hb=>⟨?_,ln b hb⟩,(HF1.out.trans HF2.out (fun _ _ h=>h) (fun _ _ h=>h)).trans f23 (fun _ _ h=>h) (fun _ _ h=>h)⟩
  · have:=lp b hb; omega
  · have h1:=lp b hb
    have h2:=HLN.out b hn
    omega
  · have:=HLN.out b hb; omega
def zXr {kind:Int} (K:zAD kind) (tP t:TypeId) (most:Int) (g off mult mn mx pm:Nat) (w:World) (e:Ending) (w':World):Prop :=
  ∃ pe pd pt pp pn SP SN,e = .returned (.pointer (some ⟨pe,0,none⟩))∧Sk K tP t most g off mult mn mx [] [] 0 0 0 0 0 9218868437227405312 18442240474082181120 SP SN pe pd pt pm pp pn w' ∧
    w.heap.size≤pd∧w.heap.size≤pt∧w.heap.size≤pe∧(∀ b,SP b∨SN b→w.heap.size≤b)∧Fr (fun _=>False) w w'
set_option maxRecDepth 100000 in
set_option maxHeartbeats 800000 in
theorem zSH {kind:Int} (K:zAD kind) (tP t:TypeId) (most:Int) (g off mult mn mx pm b0 b1:Nat) (w:World) (hk:zBg kind most=true) (h0:w.cell? ⟨b0,0,none⟩=some (.int .i64 kind)) (h1:w.cell? ⟨b1,0,none⟩=some (.int .i64 most)) (hm:Map5 t w pm g off mult mn mx) :
    Calls Tryz.prog 36 #[.iface tP (.pointer (some ⟨pm,0,none⟩)),.func (.func 37) #[] #[.pointer (some ⟨b0,0,none⟩),.pointer (some ⟨b1,0,none⟩)]] w fun e w'=>zXr K tP t most g off mult mn mx pm w e w':=by
  have H1:=zKe K most tP pm b0 b1 w hk h0 h1
  have HM:=Lib.hid hm
  clear hk h0 h1 hm
  go_enter Tryz.func36,Tryz.ntmps36
  go_wp2_with fail
  refine H1.mono ?_
  clear H1
  rintro e w1 ⟨pd,pp,pn,SP,SN,rfl,hpd,hbd,hsp,hsn,hSP,hSN,hf⟩
  have HBD:=Lib.hid hbd
  have HSP:=Lib.hid hsp
  have HSN:=Lib.hid hsn
  have HLP:=Lib.hid hSP
  have HLN:=Lib.hid hSN
  have HF:=Lib.hid hf
  clear hbd hsp hsn hSP hSN hf
  go_wp2_with (go_at_call 60; (with_reducible refine (zKd _).mono ?_); rintro e w2 ⟨pt,rfl,hpt,h6,hb2⟩; have H6:=Lib.hid h6; have HB2:=Lib.hid hb2; have HPT:=Lib.hid hpt; clear h6 hb2 hpt)
  go_ret
  have z1:=HF.out.size
  have z2:=HB2.out.size
  have lt6:=lt_of_block H6.out
  have ltd:=lt_of_block HBD.out
  have ltm:=lt_of_block HM.out
  have hpt:=HPT.out
  have fb2:Fr (fun _=>False) w1 w2:=(Fr.of_below HB2.out).mono (fun i hi h=>absurd hi (Nat.not_lt.2 h))
  have fal:∀ o,Fr (fun _=>False) w2 (w2.alloc o):=fun o=>(Fr.refl _ w2).alloc _
  have lp:=fun b hb=>(HLP.out b hb).2.1
  have ln:=fun b hb=>(HLN.out b hb).2
  have f13:∀ o,Fr (fun _=>False) w1 (w2.alloc o):=fun o=>fb2.trans (fal o) (fun _ _ h=>h) (fun _ _ h=>h)
  refine ⟨w2.heap.size,pd,pt,pp,pn,SP,SN,rfl,⟨heap_alloc_new _ _,(f13 _).heap HBD.out (fun h=>h),(fal _).heap H6.out (fun h=>h),(HF.out.trans (f13 _) (fun _ _ h=>h) (fun _ _ h=>h)).heap HM.out (fun h=>h),K.fr most [] SP pp _ w1 _ HSP.out (f13 _) (fun _ _ h=>h),K.fr most [] SN pn _ w1 _ HSN.out (f13 _) (fun _ _ h=>h),fun b hb=>(HLP.out b hb).2.2,fun b hb=>?_,by omega,by omega,by omega⟩,hpd,by omega,by omega,fun b hb=>hb.elim (fun h=>(HLP.out b h).1) (fun h=>(HLN.out b h).1),HF.out.trans (f13 _) (fun _ _ h=>h) (fun _ _ h=>h)⟩
  have hlt:b<pd∧w.heap.size≤b:=hb.elim (fun h=>⟨lp b h,(HLP.out b h).1⟩) (fun h=>⟨ln b h,(HLN.out b h).1⟩)
  omega
end Go.Proofs.YtllaekopaglolaaGreat
end
/-
  A value is added to a sketch.
-/
section
namespace Go.Proofs.YtllaekopaglolaaGreat
open Go.RowKit
def zVc {kind:Int} (K:zAD kind) (most:Int) (xs:Bins) (S:Nat→Prop) (p:Nat) (w:World) (e:Ending) (w':World):Prop :=
  e = .returned .nilIface∧∃ S',K.St most xs S' p w'∧Fr S w w'∧∀ b,S' b→S b∨w.heap.size≤b
section
variable {kind mk:Int} {K:zAD kind} (Q:zCJ K) {of_:Nat→Option (Nat × Nat × Nat × Nat × Nat)} {acc:Nat→Option Nat} {idx:Nat→Nat→Nat→Option Int} {lower:Nat→Nat→Int→Option Nat} {value:Nat→Nat→Nat→Int→Option Nat} (M:zBK mk of_ acc idx lower value)
set_option maxRecDepth 100000 in
set_option maxHeartbeats 2000000 in
theorem zQx (most:Int) (pd pm pp pn g off mult mn mx z v c:Nat) (i:Int) (ps:Bins) (S:Nat→Prop) (w:World)
   (hbd:w.heap[pd]?=some (.cells #[.iface M.tP (.pointer (some ⟨pm,0,none⟩)),.iface K.T (.pointer (some ⟨pp,0,none⟩)),.iface K.T (.pointer (some ⟨pn,0,none⟩)),.float .f64 (nf z)] 108 (0,0)))
   (hm:Map5 M.t w pm g off mult mn mx) (hs:K.St most ps S pp w) (hk:zBg kind most=true) (hr:InR ps) (hp:Pos ps) (ht:tot ps+c<1000000000) (hl:ps.length<1000) (i0:-10000≤i) (i1:i≤10000) (hc:0<c)
   (hn0:flt (nf c) 0=false) (h1:fgt v mn=true) (h2:fgt v mx=false) (hi:idx off mult v=some i) :
    Calls Tryz.prog 61 #[.pointer (some ⟨pd,0,none⟩),.float .f64 v,.float .f64 (nf c)] w fun e w'=>zVc K most (ps++[(i,c)]) S pp w e w':=by
  have d0:=cell_of_row _ _ 0 _ _ _ hbd
  have d1:=cell_of_row _ _ 1 _ _ _ hbd
  have k0:(FloatKind.f64.format.order (nf c) 0 == some .lt)=false:=hn0
  have k1:(FloatKind.f64.format.order v mn == some .gt)=true:=h1
  have k2:(FloatKind.f64.format.order v mx == some .gt)=false:=h2
  have CN:=M.cMin pm g off mult mn mx w hm
  have CX:=M.cMax pm g off mult mn mx w hm
  have CI:∀ n,Calls Tryz.prog M.fIdx #[.pointer (some ⟨pm,0,none⟩),.float .f64 v] (w.drewN n) fun e w'=>zDz (.int .i64 i) (w.drewN n) e w':=fun n=>M.cIdx pm g off mult mn mx v i (w.drewN n) hm hi
  have CA:∀ n,Calls Tryz.prog K.fAdd #[.pointer (some ⟨pp,0,none⟩),.int .i64 i,.float .f64 (nf c)] (w.drewN n) fun e w'=>e = .returned (.tuple #[])∧∃ S',K.St most (ps++[(i,c)]) S' pp w'∧Fr S (w.drewN n) w'∧∀ k,S' k→S k∨(w.drewN n).heap.size≤k :=
    fun n=>K.add most ps S pp i c (w.drewN n) hk (K.fr most ps S pp (fun _=>False) w _ hs ((Fr.refl _ w).drewN n) (fun _ _ h=>h)) hr hp ht hl i0 i1 hc
  have CI0:Calls Tryz.prog M.fIdx #[.pointer (some ⟨pm,0,none⟩),.float .f64 v] w.drew fun e w'=>zDz (.int .i64 i) w.drew e w':=CI 1
  have mN:=M.mMin pm
  have mX:=M.mMax pm
  have mI:=M.mIdx pm
  have mA:=K.mAdd pp
  have eN:=M.eMin
  have eX:=M.eMax
  have eI:=M.eIdx
  have eA:=K.eAdd
  obtain ⟨nc,hnc⟩:∃ y,y=nf c:=⟨_,rfl⟩
  rw [← hnc] at k0 CA ⊢
  clear hbd hm hs hk hr hp ht hl hc hn0 h1 h2 hi hnc
  go_enter Tryz.func61,Tryz.ntmps61
  go_wp2_with (first | (go_at_fn M.fMin; (with_reducible refine CN.mono ?_); rintro e wa ⟨rfl,rfl⟩) | (go_at_fn M.fMax; (with_reducible refine CX.mono ?_); rintro e wb ⟨rfl,rfl⟩))
  go_region_law (first | (go_simp; go_at_fn M.fIdx; (with_reducible refine CI0.mono ?_); rintro e wi ⟨rfl,ki,rfl⟩) | (go_simp; go_at_fn K.fAdd; (with_reducible refine (CA _).mono ?_); rintro e ws ⟨rfl,S',hs',hf',hS'⟩; have HS:=Lib.hid hs'; have HF:=Lib.hid hf'; have HL:=Lib.hid hS'; clear hs' hf' hS'))
  all_goals
    go_wp2
    go_ret
    exact ⟨rfl,S',HS.out,⟨HF.out.os,HF.out.tape,HF.out.output,HF.out.size,HF.out.block⟩,HL.out⟩
set_option maxRecDepth 100000 in
set_option maxHeartbeats 2000000 in
theorem zQy (most:Int) (pd pm pp pn g off mult mn mx z v c:Nat) (i:Int) (ns:Bins) (S:Nat→Prop) (w:World)
   (hbd:w.heap[pd]?=some (.cells #[.iface M.tP (.pointer (some ⟨pm,0,none⟩)),.iface K.T (.pointer (some ⟨pp,0,none⟩)),.iface K.T (.pointer (some ⟨pn,0,none⟩)),.float .f64 (nf z)] 108 (0,0)))
   (hm:Map5 M.t w pm g off mult mn mx) (hs:K.St most ns S pn w) (hk:zBg kind most=true) (hr:InR ns) (hp:Pos ns) (ht:tot ns+c<1000000000) (hl:ns.length<1000) (i0:-10000≤i) (i1:i≤10000) (hc:0<c)
   (hn0:flt (nf c) 0=false) (h1:fgt v mn=false) (h2:flt v (negF mn)=true) (h3:flt v (negF mx)=false) (hi:idx off mult (negF v)=some i) :
    Calls Tryz.prog 61 #[.pointer (some ⟨pd,0,none⟩),.float .f64 v,.float .f64 (nf c)] w fun e w'=>zVc K most (ns++[(i,c)]) S pn w e w':=by
  have d0:=cell_of_row _ _ 0 _ _ _ hbd
  have d2:=cell_of_row _ _ 2 _ _ _ hbd
  have k0:(FloatKind.f64.format.order (nf c) 0 == some .lt)=false:=hn0
  have k1:(FloatKind.f64.format.order v mn == some .gt)=false:=h1
  have k2:(FloatKind.f64.format.order v (negF mn) == some .lt)=true:=h2
  have k3:(FloatKind.f64.format.order v (negF mx) == some .lt)=false:=h3
  have CN:=M.cMin pm g off mult mn mx w hm
  have CX:=M.cMax pm g off mult mn mx w hm
  have CI:∀ n,Calls Tryz.prog M.fIdx #[.pointer (some ⟨pm,0,none⟩),.float .f64 (negF v)] (w.drewN n) fun e w'=>zDz (.int .i64 i) (w.drewN n) e w':=fun n=>M.cIdx pm g off mult mn mx (negF v) i (w.drewN n) hm hi
  have CA:∀ n,Calls Tryz.prog K.fAdd #[.pointer (some ⟨pn,0,none⟩),.int .i64 i,.float .f64 (nf c)] (w.drewN n) fun e w'=>e = .returned (.tuple #[])∧∃ S',K.St most (ns++[(i,c)]) S' pn w'∧Fr S (w.drewN n) w'∧∀ k,S' k→S k∨(w.drewN n).heap.size≤k :=
    fun n=>K.add most ns S pn i c (w.drewN n) hk (K.fr most ns S pn (fun _=>False) w _ hs ((Fr.refl _ w).drewN n) (fun _ _ h=>h)) hr hp ht hl i0 i1 hc
  have CI0:Calls Tryz.prog M.fIdx #[.pointer (some ⟨pm,0,none⟩),.float .f64 (negF v)] w.drew fun e w'=>zDz (.int .i64 i) w.drew e w':=CI 1
  have mN:=M.mMin pm
  have mX:=M.mMax pm
  have mI:=M.mIdx pm
  have mA:=K.mAdd pn
  have eN:=M.eMin
  have eX:=M.eMax
  have eI:=M.eIdx
  have eA:=K.eAdd
  obtain ⟨nc,hnc⟩:∃ y,y=nf c:=⟨_,rfl⟩
  rw [← hnc] at k0 CA ⊢
  clear hbd hm hs hk hr hp ht hl hc hn0 h1 h2 h3 hi hnc
  go_enter Tryz.func61,Tryz.ntmps61
  go_wp2_with (first | (go_at_fn M.fMin; (with_reducible refine CN.mono ?_); rintro e wa ⟨rfl,rfl⟩) | (go_at_fn M.fMax; (with_reducible refine CX.mono ?_); rintro e wb ⟨rfl,rfl⟩))
  go_region_law (first | (go_simp; go_at_fn M.fIdx; (with_reducible refine CI0.mono ?_); rintro e wi ⟨rfl,ki,rfl⟩) | (go_simp; go_at_fn K.fAdd; (with_reducible refine (CA _).mono ?_); rintro e ws ⟨rfl,S',hs',hf',hS'⟩; have HS:=Lib.hid hs'; have HF:=Lib.hid hf'; have HL:=Lib.hid hS'; clear hs' hf' hS'))
  all_goals
    go_wp2
    go_ret
    exact ⟨rfl,S',HS.out,⟨HF.out.os,HF.out.tape,HF.out.output,HF.out.size,HF.out.block⟩,HL.out⟩
set_option maxRecDepth 100000 in
set_option maxHeartbeats 800000 in
theorem zQw (pd pm pp pn g off mult mn mx z v c:Nat) (w:World)
   (hbd:w.heap[pd]?=some (.cells #[.iface M.tP (.pointer (some ⟨pm,0,none⟩)),.iface K.T (.pointer (some ⟨pp,0,none⟩)),.iface K.T (.pointer (some ⟨pn,0,none⟩)),.float .f64 (nf z)] 108 (0,0)))
   (hm:Map5 M.t w pm g off mult mn mx) (hzc:z+c<9007199254740992) (hn0:flt (nf c) 0=false) (h1:fgt v mn=false) (h2:flt v (negF mn)=false) (hn:zA7 v=true) :
    Calls Tryz.prog 61 #[.pointer (some ⟨pd,0,none⟩),.float .f64 v,.float .f64 (nf c)] w fun e w'=>e = .returned .nilIface∧w'=w.setCell ⟨pd,3,none⟩ (.float .f64 (nf (z+c))):=by
  have d0:=cell_of_row _ _ 0 _ _ _ hbd
  have d3:=cell_of_row _ _ 3 _ _ _ hbd
  have f3:=frozen_of_row w pd 3 _ _ hbd
  have k0:(FloatKind.f64.format.order (nf c) 0 == some .lt)=false:=hn0
  have k1:(FloatKind.f64.format.order v mn == some .gt)=false:=h1
  have k2:(FloatKind.f64.format.order v (negF mn) == some .lt)=false:=h2
  have CN:=M.cMin pm g off mult mn mx w hm
  have HN:=fun w=>zJn v w hn
  have q:=fun w:World=>run_float_arith (P:=Tryz.prog) w .add 29 .f64 _ _ _ (zAz z c hzc)
  have mN:=M.mMin pm
  have eN:=M.eMin
  obtain ⟨nc,hnc⟩:∃ y,y=nf c:=⟨_,rfl⟩
  rw [← hnc] at k0 q ⊢
  obtain ⟨nz,hnz⟩:∃ y,y=nf z:=⟨_,rfl⟩
  rw [← hnz] at d3 q
  obtain ⟨ny,hny⟩:∃ y,y=nf (z+c):=⟨_,rfl⟩
  rw [← hny] at q ⊢
  clear hbd hm hzc hn0 h1 h2 hn hnc hnz hny
  go_enter Tryz.func61,Tryz.ntmps61
  go_wp2_with (first | (go_at_fn M.fMin; (with_reducible refine CN.mono ?_); rintro e wa ⟨rfl,rfl⟩) | (go_at_call 67; (with_reducible refine (HN _).mono ?_); rintro e wb ⟨rfl,rfl⟩))
  go_ret
  exact ⟨rfl,rfl⟩
end
end Go.Proofs.YtllaekopaglolaaGreat
end
/-
  spec.Fits,whatever the float.
-/
section
namespace Go.Proofs.YtllaekopaglolaaGreat
open Go.RowKit
theorem zJY {n:Nat} (h:9218868437227405312<n % 9223372036854775808) (z:Nat):FloatKind.f64.format.order n z=none:=by
  have e1:Ieee.double.signWeight=9223372036854775808:=by decide
  have e2:Ieee.double.binade=4503599627370496:=by decide
  have e3:Ieee.double.infRung=9218868437227405312:=by decide
  show (Ieee.double.read n).order (Ieee.double.read z)=none
  have:∃ s t,Ieee.double.read n = .nan s t:=by
    unfold Ieee.Format.read
    rw [e1,e2,e3]
    dsimp only
    rw [if_neg (by omega),if_neg (by omega),if_neg (by omega)]
    exact ⟨_,_,rfl⟩
  obtain ⟨s,t,hr⟩:=this
  rw [hr]
  unfold Ieee.Datum.order
  cases Ieee.double.read z <;> rfl
theorem zKU {P:Program} (w:World) (x y:Nat) (h:maxO x y=none):∃ n,(∀ z,FloatKind.f64.format.order n z=none)∧∀ ts t,(Builtin.max_ ts t #[.float .f64 x,.float .f64 y]).run P w = .ok (.float .f64 n) w.drew:=by
  unfold maxO at h
  cases ho:FloatKind.f64.format.order x y with
  | none =>
    refine ⟨_,?_,fun ts t=>by simp [Builtin.max_,Builtin.max2,ho,Question.forced]; rfl⟩
    intro z
    refine zJY ?_ z
    unfold Question.cut
    dsimp only
    generalize w.tape w.drawn _=t
    rw [show (2:Nat)^63=9223372036854775808 from by decide,show (2:Nat)^52=4503599627370496 from by decide]
    have hr:=Nat.mod_lt (t / 2) (show 0<4503599627370496 - 1 by decide)
    have hs:=Nat.mod_lt t (show 0<2 by decide)
    generalize t / 2 % (4503599627370496 - 1)=r at *
    generalize t % 2=s at *
    have:s=0∨s=1:=by omega
    rcases this with h | h <;> subst h <;> omega
  | some c =>
    rw [ho] at h
    cases c <;> cases h
def zHW (v:Nat):Bool:=match maxO v (negF v) with | some a=>feq v 0||(fge a 4517329193108106637&&fle a 4696837146684686336) | none=>feq v 0
set_option maxRecDepth 100000 in
set_option maxHeartbeats 800000 in
theorem zUo (v:Nat) (w:World):Calls Tryz.prog 12 #[.float .f64 v] w fun e w'=>e = .returned (.bool (zHW v))∧∃ k,w'=w.drewN k:=by
  unfold zHW
  cases hm:maxO v (negF v) with
  | some m =>
    have q2:=fun (w:World) ts t=>zB8 (P:=Tryz.prog) w ts t v (negF v) m hm
    clear hm
    dsimp only
    obtain ⟨b0,h0⟩:∃ b,feq v 0=b:=⟨_,rfl⟩
    obtain ⟨b1,h1⟩:∃ b,fge m 4517329193108106637=b:=⟨_,rfl⟩
    obtain ⟨b2,h2⟩:∃ b,fle m 4696837146684686336=b:=⟨_,rfl⟩
    rw [h0,h1,h2]
    have k0:(FloatKind.f64.format.order v 0 == some .eq)=b0:=h0
    have k1:(FloatKind.f64.format.order m 4517329193108106637 == some .gt||FloatKind.f64.format.order m 4517329193108106637 == some .eq)=b1:=h1
    have k2:(FloatKind.f64.format.order m 4696837146684686336 == some .lt||FloatKind.f64.format.order m 4696837146684686336 == some .eq)=b2:=h2
    clear h0 h1 h2
    cases b0 <;> cases b1 <;> cases b2 <;> (
      go_enter Tryz.func12,Tryz.ntmps12
      go_wp2
      go_ret
      exact ⟨rfl,0,rfl⟩)
  | none =>
    obtain ⟨n,hn,hr⟩:=zKU (P:=Tryz.prog) w v (negF v) hm
    clear hm
    dsimp only
    obtain ⟨b0,h0⟩:∃ b,feq v 0=b:=⟨_,rfl⟩
    rw [h0]
    have k0:(FloatKind.f64.format.order v 0 == some .eq)=b0:=h0
    have k1:(FloatKind.f64.format.order n 4517329193108106637 == some .gt||FloatKind.f64.format.order n 4517329193108106637 == some .eq)=false:=by rw [hn]; rfl
    clear h0
    cases b0 <;> (
      go_enter Tryz.func12,Tryz.ntmps12
      go_wp2
      go_ret
      exact ⟨rfl,1,rfl⟩)
end Go.Proofs.YtllaekopaglolaaGreat
end
/-
  What spec.Fits tells of a float's bits.
-/
section
namespace Go.Proofs.YtllaekopaglolaaGreat
open Go.RowKit
open Ieee
theorem zUm (s:Bool):zHW ((if s then 9223372036854775808 else 0)+9218868437227405312)=false:=by
  cases s <;> decide +kernel
theorem zUn {v:Nat} (hv:v<18446744073709551616) (h:zHW v=true):finB v=true:=by
  by_cases h1:v % 9223372036854775808<9218868437227405312
  · unfold finB
    rw [Bool.and_eq_true,Nat.blt_eq,Nat.blt_eq]
    exact ⟨h1,hv⟩
  · exfalso
    by_cases h2:v % 9223372036854775808=9218868437227405312
    · have e:v=(if decide (9223372036854775808≤v) then 9223372036854775808 else 0)+9218868437227405312:=by
        by_cases h3:9223372036854775808≤v
        · simp [h3]; omega
        · simp [h3]; omega
      rw [e,zUm] at h
      cases h
    · have hn:=zJY (n:=v) (by omega)
      unfold zHW maxO at h
      rw [hn] at h
      unfold feq at h
      rw [hn] at h
      cases h
theorem zQl {v:Nat} (hv:v<18446744073709551616) (h:zHW v=true):∃ s:Bool,∃ r:Nat,v=(if s then 9223372036854775808 else 0)+r∧FV v ((if s then (-1:Int) else 1)*((zAs r:Nat):Int))∧(r=0∨(4517329193108106637≤r∧r≤4696837146684686336)):=by
  obtain ⟨s0,hf0,-⟩:=zCF (zUn hv h)
  obtain ⟨s,r,hr,hx,ha⟩:=zGg hf0
  rw [ha] at hf0
  refine ⟨s,r,hx,hf0,?_⟩
  obtain ⟨m,hm,fm⟩:=zDi hf0
  have hab:((if s then (-1:Int) else 1)*((zAs r:Nat):Int)).natAbs=zAs r:=zCg s _
  rw [hab] at fm
  unfold zHW at h
  rw [hm] at h
  dsimp only at h
  rw [zGO hf0 zA0,zOX fm (zDP (x:=4517329193108106637) (by decide) (by decide)),zGN fm (zDP (x:=4696837146684686336) (by decide) (by decide))] at h
  simp only [Bool.or_eq_true,Bool.and_eq_true,decide_eq_true_eq] at h
  rcases h with h | ⟨h1,h2⟩
  · left
    have:zAs r=0:=by
      have:=congrArg Int.natAbs h
      rw [hab] at this; exact this
    exact zBl.1 this
  · right
    rw [zCT (by decide)] at h1 h2
    have k1:¬ zAs r<zAs 4517329193108106637:=by have:=Int.ofNat_le.1 h1; omega
    have k2:¬ zAs 4696837146684686336<zAs r:=by have:=Int.ofNat_le.1 h2; omega
    rw [zGc] at k1 k2
    omega
end Go.Proofs.YtllaekopaglolaaGreat
end
/-
  Values with their counts,plainly: what each adds,how great all are; the bins of a sketch.
-/
section
namespace Go.Proofs.YtllaekopaglolaaGreat
open Go.RowKit
open Ieee
set_option exponentiation.threshold 5000
abbrev Items:=List (Nat × Nat)
def vI (v:Nat):Int:=if v<9223372036854775808 then ((zAs v:Nat):Int) else -((zAs (v - 9223372036854775808):Nat):Int)
structure zAU (q:Nat × Nat):Prop where
  lt:q.1<18446744073709551616
  fits:zHW q.1=true
  c1:1≤q.2
  c2:q.2≤100
theorem zAx {v:Nat} (hv:v<18446744073709551616) (h:zHW v=true):FV v (vI v) ∧
    ((vI v=0∧(v=0∨v=9223372036854775808))∨(0<vI v∧4517329193108106637≤v∧v≤4696837146684686336∧vI v=((rvN v:Nat):Int)) ∨
      (vI v<0∧9223372036854775808<v∧4517329193108106637≤v - 9223372036854775808∧v - 9223372036854775808≤4696837146684686336∧vI v = -((rvN (v - 9223372036854775808):Nat):Int)∧negF v=v - 9223372036854775808)):=by
  obtain ⟨s,r,hx,hf,hr⟩:=zQl hv h
  have hpos:∀ {r:Nat},4517329193108106637≤r→0<zAs r:=fun {r} h=>by
    have h0:zAs r≠0:=fun e=>by have:=zBl.1 e; omega
    omega
  cases s
  · have hv2:v=r:=by simpa using hx
    subst hv2
    have hrb:v<9223372036854775808:=by omega
    have e:vI v=((zAs v:Nat):Int):=by unfold vI; rw [if_pos hrb]
    rw [e]
    refine ⟨by simpa using hf,?_⟩
    rcases hr with h0 | ⟨h1,h2⟩
    · subst h0
      exact .inl ⟨by rw [zBl.2 rfl]; rfl,.inl rfl⟩
    · refine .inr (.inl ⟨?_,h1,h2,by rw [zCT (by omega)]⟩)
      have:=hpos h1; omega
  · have hv2:v=9223372036854775808+r:=by simpa using hx
    have hrb:¬ v<9223372036854775808:=by omega
    have hsub:v - 9223372036854775808=r:=by omega
    have e:vI v = -((zAs r:Nat):Int):=by unfold vI; rw [if_neg hrb,hsub]
    rw [e,hsub]
    refine ⟨by simpa using hf,?_⟩
    rcases hr with h0 | ⟨h1,h2⟩
    · subst h0
      exact .inl ⟨by rw [zBl.2 rfl]; rfl,.inr hv2⟩
    · refine .inr (.inr ⟨?_,by omega,h1,h2,by rw [zCT (by omega)],?_⟩)
      · have:=hpos h1; omega
      · have h63:(2:Nat)^63=9223372036854775808:=by decide
        have ht:=zRF (r:=r) (by rw [h63]; omega)
        show v ^^^ 2^63=r
        rw [hv2,← h63,← ht,Nat.xor_assoc,Nat.xor_self,Nat.xor_zero]
def eI (q:Nat × Nat):Int:=vI q.1*(q.2:Int)
def sumI:Items→Int
  | []=>0
  | q :: t=>eI q+sumI t
def absI:Items→Int
  | []=>0
  | q :: t=>((eI q).natAbs:Int)+absI t
theorem zEi (a b:Items):sumI (a++b)=sumI a+sumI b:=by
  induction a with
  | nil=>show sumI b=0+sumI b; omega
  | cons q t ih=>show eI q+sumI (t++b)=eI q+sumI t+sumI b; rw [ih]; omega
theorem zC2 (a b:Items):absI (a++b)=absI a+absI b:=by
  induction a with
  | nil=>show absI b=0+absI b; omega
  | cons q t ih=>show _+absI (t++b)=_+absI t+absI b; rw [ih]; omega
theorem zBk (a:Items):0≤absI a:=by
  induction a with
  | nil=>exact Int.le_refl _
  | cons q t ih=>show 0≤_+absI t; omega
theorem zKR (a:Items):-absI a≤sumI a∧sumI a≤absI a:=by
  induction a with
  | nil=>exact ⟨Int.le_refl _,Int.le_refl _⟩
  | cons q t ih=>show -(_+absI t)≤eI q+sumI t∧eI q+sumI t≤_+absI t; omega
theorem zRO {a b:Items} (h:a.Perm b):sumI a=sumI b:=by
  induction h with
  | nil=>rfl
  | cons x _ ih=>show _+_=_+_; rw [ih]
  | swap x y l=>show eI y+(eI x+sumI l)=eI x+(eI y+sumI l); omega
  | trans _ _ i1 i2=>rw [i1,i2]
theorem zHo {a b:Items} (h:a.Perm b):absI a=absI b:=by
  induction h with
  | nil=>rfl
  | cons x _ ih=>show _+_=_+_; rw [ih]
  | swap x y l=>show _+(_+absI l)=_+(_+absI l); omega
  | trans _ _ i1 i2=>rw [i1,i2]
theorem zFq (n:Nat) (h:n<9007199254740992):FV (nf n) ((n:Int)*2^1074):=by
  have:=zGK (n:Int) 1074 rfl (by omega)
  exact this
theorem zI2 {q:Nat × Nat} (h:zAU q):(eI q).natAbs≤2^1098*100:=by
  obtain ⟨-,hc⟩:=zAx h.lt h.fits
  have hv:(vI q.1).natAbs≤2^1098:=by
    rcases hc with ⟨h0,-⟩ | ⟨-,h1,h2,h3⟩ | ⟨-,h1,h2,h3,h4,-⟩
    · rw [h0]; exact Nat.zero_le _
    · rw [h3,Int.natAbs_natCast]; exact (zBO (by omega) (by omega)).2
    · rw [h4,Int.natAbs_neg,Int.natAbs_natCast]; exact (zBO (by omega) (by omega)).2
  unfold eI
  rw [Int.natAbs_mul,Int.natAbs_natCast]
  exact Nat.mul_le_mul hv h.c2
theorem zG2 {q:Nat × Nat} (h:zAU q):∃ x X,fmul q.1 (nf q.2)=some x∧FV x X∧∀ M:Rat,-M≤qv (eI q)→qv (eI q)≤M → -(M / 9007199254740992)≤qv X - qv (eI q)∧qv X - qv (eI q)≤M / 9007199254740992:=by
  obtain ⟨hf,hc⟩:=zAx h.lt h.fits
  have h2:=h.c2
  have h1:=h.c1
  have hn:=zFq q.2 (by omega)
  obtain ⟨T,hT,hT0,-,-⟩:=zD9
  have hTi:(2:Int)^1074=((T:Nat):Int):=by rw [hT,Int.natCast_pow]; rfl
  have hz:vI q.1*((q.2:Int)*2^1074)=eI q*((T:Nat):Int):=by unfold eI; rw [hTi,Int.mul_assoc]
  have hb:=zI2 h
  have hab:(eI q*((T:Nat):Int)).natAbs=(eI q).natAbs*T:=by rw [Int.natAbs_mul,Int.natAbs_natCast]
  have hlog:(eI q*((T:Nat):Int)).natAbs.log2<3164:=by
    rw [hab]
    refine zAg (Nat.lt_of_le_of_lt (Nat.mul_le_mul_right T hb) ?_) (by omega)
    rw [hT]
    have e:(2:Nat)^3164=2^1098*2^992*2^1074:=by rw [← Nat.pow_add,← Nat.pow_add]
    rw [e]
    refine Nat.mul_lt_mul_of_pos_right (Nat.mul_lt_mul_of_pos_left ?_ (Nat.two_pow_pos _)) (Nat.two_pow_pos _)
    exact Nat.lt_of_lt_of_le (show 100<2^7 by decide) (Nat.pow_le_pow_right (by decide) (by decide))
  obtain ⟨x,hx,fx⟩:=zCQ hf hn (by rw [hz]; exact hlog)
  rw [hz] at fx
  refine ⟨x,_,hx,fx,fun M m1 m2=>?_⟩
  have key:∀ n:Nat,n=0∨2^1050≤n→(qv ((n:Nat):Int)≤M) → -(M / 9007199254740992)≤qv ((rndT 1074 (n*T):Nat):Int) - qv ((n:Nat):Int)∧qv ((rndT 1074 (n*T):Nat):Int) - qv ((n:Nat):Int)≤M / 9007199254740992:=fun n hn hm=>by
    rcases hn with rfl | hn
    · rw [Nat.zero_mul,zCW]
      have e0:qv ((0:Nat):Int)=0:=by unfold qv; simp
      rw [e0] at hm ⊢
      constructor <;> grind
    · have hbig:2^(1074+52)≤n*T:=by
        rw [hT]
        have:=Nat.mul_le_mul_right (2^1074) hn
        rw [← Nat.pow_add] at this
        exact Nat.le_trans (Nat.pow_le_pow_right (by decide) (by decide)) this
      obtain ⟨a,b⟩:=zCA 1074 (n*T) (.inr hbig)
      rw [← hT] at a b
      have a':rndT 1074 (n*T)*9007199254740992≤n*9007199254740993:=by
        refine Nat.le_of_mul_le_mul_right ?_ hT0
        rw [Nat.mul_right_comm,Nat.mul_right_comm n]; exact a
      have b':n*9007199254740991≤rndT 1074 (n*T)*9007199254740992:=by
        refine Nat.le_of_mul_le_mul_right ?_ hT0
        rw [Nat.mul_right_comm n,Nat.mul_right_comm (rndT 1074 (n*T))]; exact b
      have q1:=zA9 (Int.ofNat_le.2 a')
      have q2:=zA9 (Int.ofNat_le.2 b')
      have e:∀ m c:Nat,qv ((m*c:Nat):Int)=qv ((m:Nat):Int)*(c:Rat):=fun m c=>by
        unfold qv; rw [Int.natCast_mul,Rat.intCast_mul,Rat.intCast_natCast,Rat.intCast_natCast]; grind
      rw [e,e] at q1 q2
      have f1:((9007199254740992:Nat):Rat)=9007199254740992:=rfl
      have f2:((9007199254740993:Nat):Rat)=9007199254740993:=rfl
      have f3:((9007199254740991:Nat):Rat)=9007199254740991:=rfl
      rw [f1,f2] at q1
      rw [f1,f3] at q2
      generalize qv ((rndT 1074 (n*T):Nat):Int)=r at *
      generalize qv ((n:Nat):Int)=y at *
      constructor <;> grind
  have hlow:(eI q).natAbs=0∨2^1050≤(eI q).natAbs:=by
    have hv:(vI q.1).natAbs=0∨2^1050≤(vI q.1).natAbs:=by
      rcases hc with ⟨h0,-⟩ | ⟨-,g1,g2,g3⟩ | ⟨-,g1,g2,g3,g4,-⟩
      · left; rw [h0]; rfl
      · right; rw [g3,Int.natAbs_natCast]; exact (zBO (by omega) (by omega)).1
      · right; rw [g4,Int.natAbs_neg,Int.natAbs_natCast]; exact (zBO (by omega) (by omega)).1
    unfold eI
    rw [Int.natAbs_mul,Int.natAbs_natCast]
    rcases hv with hv | hv
    · left; rw [hv,Nat.zero_mul]
    · right
      have:=Nat.mul_le_mul hv h1
      rwa [Nat.mul_one] at this
  rcases Int.le_total 0 (eI q) with hs | hs
  · obtain ⟨n,hn⟩:=Int.eq_ofNat_of_zero_le hs
    rw [hn,Int.natAbs_natCast] at hlow
    rw [hn] at m2 ⊢
    rw [← Int.natCast_mul,zAj]
    exact key n hlow m2
  · obtain ⟨n,hn⟩:=Int.eq_ofNat_of_zero_le (show 0 ≤ -eI q by omega)
    have hn':eI q = -(n:Int):=by omega
    rw [hn',Int.natAbs_neg,Int.natAbs_natCast] at hlow
    rw [hn',zCr] at m1
    rw [hn',Int.neg_mul,← Int.natCast_mul,zDe,zCr,zCr]
    obtain ⟨a,b⟩:=key n hlow (by grind)
    constructor <;> grind
end Go.Proofs.YtllaekopaglolaaGreat
end
