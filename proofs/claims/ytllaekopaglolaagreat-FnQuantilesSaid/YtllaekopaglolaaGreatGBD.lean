/-
  A mapping of a kind,as an interface's value: its methods,for all kinds alike.
-/
import Derived.Test.YtllaekopaglolaaGreatGAH
import Derived.Test.YtllaekopaglolaaGreatGBC
import Derived.Test.YtllaekopaglolaaGreatGAL
import Derived.Deep.RegionLaw
import Derived.Shelf.Abstract
import Derived.Test.YtllaekopaglolaaGreatGAK
section
namespace Go.Proofs.YtllaekopaglolaaGreat
open Go.RowKit
structure MapKind (kind:Int) (of_:Nat→Option (Nat × Nat × Nat × Nat × Nat)) (acc:Nat→Option Nat) (idx:Nat→Nat→Nat→Option Int) (lower:Nat→Nat→Int→Option Nat) (value:Nat→Nat→Nat→Int→Option Nat) where
  tP:TypeId
  t:TypeId
  fIdx:FuncId
  fVal:FuncId
  fLow:FuncId
  fAcc:FuncId
  fMin:FuncId
  fMax:FuncId
  ht:t≠29
  mIdx:∀ p w,(method 339 tP (.pointer (some ⟨p,0,none⟩)) "Index").run Tryz.prog w = .ok (fIdx,.pointer (some ⟨p,0,none⟩)) w
  mVal:∀ p w,(method 339 tP (.pointer (some ⟨p,0,none⟩)) "Value").run Tryz.prog w = .ok (fVal,.pointer (some ⟨p,0,none⟩)) w
  mLow:∀ p w,(method 339 tP (.pointer (some ⟨p,0,none⟩)) "LowerBound").run Tryz.prog w = .ok (fLow,.pointer (some ⟨p,0,none⟩)) w
  mAcc:∀ p w,(method 339 tP (.pointer (some ⟨p,0,none⟩)) "RelativeAccuracy").run Tryz.prog w = .ok (fAcc,.pointer (some ⟨p,0,none⟩)) w
  mMin:∀ p w,(method 339 tP (.pointer (some ⟨p,0,none⟩)) "MinIndexableValue").run Tryz.prog w = .ok (fMin,.pointer (some ⟨p,0,none⟩)) w
  mMax:∀ p w,(method 339 tP (.pointer (some ⟨p,0,none⟩)) "MaxIndexableValue").run Tryz.prog w = .ok (fMax,.pointer (some ⟨p,0,none⟩)) w
  eIdx:∀ args w,(callFunc fIdx args).run Tryz.prog w = .ok (.enter fIdx args) w
  eVal:∀ args w,(callFunc fVal args).run Tryz.prog w = .ok (.enter fVal args) w
  eLow:∀ args w,(callFunc fLow args).run Tryz.prog w = .ok (.enter fLow args) w
  eAcc:∀ args w,(callFunc fAcc args).run Tryz.prog w = .ok (.enter fAcc args) w
  eMin:∀ args w,(callFunc fMin args).run Tryz.prog w = .ok (.enter fMin args) w
  eMax:∀ args w,(callFunc fMax args).run Tryz.prog w = .ok (.enter fMax args) w
  made:∀ a g off mult mn mx w,of_ a=some (g,off,mult,mn,mx)→Calls Tryz.prog 34 #[.int .i64 kind,.float .f64 a] w fun e w'=>MadeI tP t g off mult mn mx w e w'
  cIdx:∀ m g off mult mn mx v i w,Map5 t w m g off mult mn mx→idx off mult v=some i→Calls Tryz.prog fIdx #[.pointer (some ⟨m,0,none⟩),.float .f64 v] w fun e w'=>Reads (.int .i64 i) w e w'
  cVal:∀ m g off mult mn mx i r w,Map5 t w m g off mult mn mx→value g off mult i=some r→Calls Tryz.prog fVal #[.pointer (some ⟨m,0,none⟩),.int .i64 i] w fun e w'=>Reads (.float .f64 r) w e w'
  cLow:∀ m g off mult mn mx i r w,Map5 t w m g off mult mn mx→lower off mult i=some r→Calls Tryz.prog fLow #[.pointer (some ⟨m,0,none⟩),.int .i64 i] w fun e w'=>Reads (.float .f64 r) w e w'
  cAcc:∀ m g off mult mn mx r w,Map5 t w m g off mult mn mx→acc g=some r→Calls Tryz.prog fAcc #[.pointer (some ⟨m,0,none⟩)] w fun e w'=>e = .returned (.float .f64 r)∧w=w'
  cMin:∀ m g off mult mn mx w,Map5 t w m g off mult mn mx→Calls Tryz.prog fMin #[.pointer (some ⟨m,0,none⟩)] w fun e w'=>e = .returned (.float .f64 mn)∧w=w'
  cMax:∀ m g off mult mn mx w,Map5 t w m g off mult mn mx→Calls Tryz.prog fMax #[.pointer (some ⟨m,0,none⟩)] w fun e w'=>e = .returned (.float .f64 mx)∧w=w'
def kindLogM:MapKind 0 ofLogF accLogF idxLogF lowerLogF valueLogF where
  tP:=84
  t:=143
  fIdx:=132
  fVal:=137
  fLow:=133
  fAcc:=136
  fMin:=135
  fMax:=134
  ht:=by decide
  mIdx:=fun p w=>by kernel_rfl
  mVal:=fun p w=>by kernel_rfl
  mLow:=fun p w=>by kernel_rfl
  mAcc:=fun p w=>by kernel_rfl
  mMin:=fun p w=>by kernel_rfl
  mMax:=fun p w=>by kernel_rfl
  eIdx:=fun args w=>run_enter Tryz.func132 (by kernel_rfl) rfl args w
  eVal:=fun args w=>run_enter Tryz.func137 (by kernel_rfl) rfl args w
  eLow:=fun args w=>run_enter Tryz.func133 (by kernel_rfl) rfl args w
  eAcc:=fun args w=>run_enter Tryz.func136 (by kernel_rfl) rfl args w
  eMin:=fun args w=>run_enter Tryz.func135 (by kernel_rfl) rfl args w
  eMax:=fun args w=>run_enter Tryz.func134 (by kernel_rfl) rfl args w
  made:=fun a g off mult mn mx w h=>mapped_log a g off mult mn mx w h
  cIdx:=fun m g off mult mn mx v i w hc h=>idxLog_any m g off mult mn mx v i w hc h
  cVal:=fun m g off mult mn mx i r w hc h=>valueLog_any m g off mult mn mx i r w hc h
  cLow:=fun m g off mult mn mx i r w hc h=>lowerLog_any m g off mult mn mx i r w hc h
  cAcc:=fun m g off mult mn mx r w hc h=>accLog_any m g off mult mn mx r w hc h
  cMin:=fun m g off mult mn mx w hc=>leastLog_any m g off mult mn mx w hc
  cMax:=fun m g off mult mn mx w hc=>mostLog_any m g off mult mn mx w hc
def kindLinM:MapKind 1 ofLinF accLinF idxLinF lowerLinF valueLinF where
  tP:=87
  t:=144
  fIdx:=141
  fVal:=146
  fLow:=142
  fAcc:=145
  fMin:=144
  fMax:=143
  ht:=by decide
  mIdx:=fun p w=>by kernel_rfl
  mVal:=fun p w=>by kernel_rfl
  mLow:=fun p w=>by kernel_rfl
  mAcc:=fun p w=>by kernel_rfl
  mMin:=fun p w=>by kernel_rfl
  mMax:=fun p w=>by kernel_rfl
  eIdx:=fun args w=>run_enter Tryz.func141 (by kernel_rfl) rfl args w
  eVal:=fun args w=>run_enter Tryz.func146 (by kernel_rfl) rfl args w
  eLow:=fun args w=>run_enter Tryz.func142 (by kernel_rfl) rfl args w
  eAcc:=fun args w=>run_enter Tryz.func145 (by kernel_rfl) rfl args w
  eMin:=fun args w=>run_enter Tryz.func144 (by kernel_rfl) rfl args w
  eMax:=fun args w=>run_enter Tryz.func143 (by kernel_rfl) rfl args w
  made:=fun a g off mult mn mx w h=>mapped_lin a g off mult mn mx w h
  cIdx:=fun m g off mult mn mx v i w hc h=>idxLin_any m g off mult mn mx v i w hc h
  cVal:=fun m g off mult mn mx i r w hc h=>valueLin_any m g off mult mn mx i r w hc h
  cLow:=fun m g off mult mn mx i r w hc h=>lowerLin_any m g off mult mn mx i r w hc h
  cAcc:=fun m g off mult mn mx r w hc h=>accLin_any m g off mult mn mx r w hc h
  cMin:=fun m g off mult mn mx w hc=>leastLin_any m g off mult mn mx w hc
  cMax:=fun m g off mult mn mx w hc=>mostLin_any m g off mult mn mx w hc
def kindCubM:MapKind 2 ofCubF accCubF idxCubF lowerCubF valueCubF where
  tP:=90
  t:=145
  fIdx:=156
  fVal:=161
  fLow:=157
  fAcc:=160
  fMin:=159
  fMax:=158
  ht:=by decide
  mIdx:=fun p w=>by kernel_rfl
  mVal:=fun p w=>by kernel_rfl
  mLow:=fun p w=>by kernel_rfl
  mAcc:=fun p w=>by kernel_rfl
  mMin:=fun p w=>by kernel_rfl
  mMax:=fun p w=>by kernel_rfl
  eIdx:=fun args w=>run_enter Tryz.func156 (by kernel_rfl) rfl args w
  eVal:=fun args w=>run_enter Tryz.func161 (by kernel_rfl) rfl args w
  eLow:=fun args w=>run_enter Tryz.func157 (by kernel_rfl) rfl args w
  eAcc:=fun args w=>run_enter Tryz.func160 (by kernel_rfl) rfl args w
  eMin:=fun args w=>run_enter Tryz.func159 (by kernel_rfl) rfl args w
  eMax:=fun args w=>run_enter Tryz.func158 (by kernel_rfl) rfl args w
  made:=fun a g off mult mn mx w h=>mapped_cub a g off mult mn mx w h
  cIdx:=fun m g off mult mn mx v i w hc h=>idxCub_any m g off mult mn mx v i w hc h
  cVal:=fun m g off mult mn mx i r w hc h=>valueCub_any m g off mult mn mx i r w hc h
  cLow:=fun m g off mult mn mx i r w hc h=>lowerCub_any m g off mult mn mx i r w hc h
  cAcc:=fun m g off mult mn mx r w hc h=>accCub_any m g off mult mn mx r w hc h
  cMin:=fun m g off mult mn mx w hc=>leastCub_any m g off mult mn mx w hc
  cMax:=fun m g off mult mn mx w hc=>mostCub_any m g off mult mn mx w hc
end Go.Proofs.YtllaekopaglolaaGreat
end
/-
  A sketch: what it is; a new one.
-/
section
namespace Go.Proofs.YtllaekopaglolaaGreat
open Go.RowKit
structure Sk {kind:Int} (K:StoreKind kind) (tP t:TypeId) (most:Int) (g off mult mn mx:Nat) (ps ns:Bins) (z c s k l lo hi:Nat) (SP SN:Nat→Prop) (pe pd pt pm pp pn:Nat) (w:World):Prop where
  be:w.heap[pe]?=some (.cells #[.pointer (some ⟨pd,0,none⟩),.pointer (some ⟨pt,0,none⟩)] 79 (0,0))
  bd:w.heap[pd]?=some (.cells #[.iface tP (.pointer (some ⟨pm,0,none⟩)),.iface K.T (.pointer (some ⟨pp,0,none⟩)),.iface K.T (.pointer (some ⟨pn,0,none⟩)),.float .f64 (nf z)] 108 (0,0))
  bt:St6 w pt c s k l lo hi
  bm:Map5 t w pm g off mult mn mx
  sp:K.St most ps SP pp w
  sn:K.St most ns SN pn w
  dj:∀ b,SP b→¬ SN b
  own:∀ b,SP b∨SN b→b≠pe∧b≠pd∧b≠pt∧b≠pm
  nm:pm≠pe∧pm≠pd∧pm≠pt
set_option maxRecDepth 100000 in
theorem prov_any {kind:Int} (K:StoreKind kind) (most:Int) (b0 b1:Nat) (w:World) (hk:knownB kind most=true) (h0:w.cell? ⟨b0,0,none⟩=some (.int .i64 kind)) (h1:w.cell? ⟨b1,0,none⟩=some (.int .i64 most)) :
    Calls Tryz.prog 37 #[.pointer (some ⟨b0,0,none⟩),.pointer (some ⟨b1,0,none⟩)] w fun e w'=>∃ p S,e = .returned (.iface K.T (.pointer (some ⟨p,0,none⟩)))∧K.St most [] S p w'∧(∀ k,S k→w.heap.size≤k)∧Fr (fun _=>False) w w':=by
  have HN:=fun w=>K.new most w hk
  clear hk
  go_enter Tryz.func37,Tryz.ntmps37
  go_wp2_with (go_at_call 35; (with_reducible refine (HN _).mono ?_); rintro e w' ⟨p,S,rfl,hs,hS,hf⟩; have HS:=Lib.hid hs; have HL:=Lib.hid hS; have HF:=Lib.hid hf; clear hs hS hf)
  go_ret
  exact ⟨p,S,rfl,HS.out,HL.out,HF.out⟩
set_option maxRecDepth 100000 in
theorem newDD_any (tP T:TypeId) (pm pp pn:Nat) (w:World):Calls Tryz.prog 74 #[.iface tP (.pointer (some ⟨pm,0,none⟩)),.iface T (.pointer (some ⟨pp,0,none⟩)),.iface T (.pointer (some ⟨pn,0,none⟩))] w fun e w'=>∃ p,e = .returned (.pointer (some ⟨p,0,none⟩))∧p=w.heap.size∧w'.heap[p]?=some (.cells #[.iface tP (.pointer (some ⟨pm,0,none⟩)),.iface T (.pointer (some ⟨pp,0,none⟩)),.iface T (.pointer (some ⟨pn,0,none⟩)),.float .f64 0] 108 (0,0))∧Below w.heap.size w w':=by
  go_enter Tryz.func74,Tryz.ntmps74
  go_wp2
  go_ret
  exact ⟨_,rfl,rfl,heap_alloc_new _ _,(Below.refl _ _).alloc (Nat.le_refl _) _⟩
def NewDD {kind:Int} (K:StoreKind kind) (most:Int) (tP:TypeId) (pm:Nat) (w:World) (e:Ending) (w':World):Prop :=
  ∃ p pp pn SP SN,e = .returned (.pointer (some ⟨p,0,none⟩))∧w.heap.size≤p∧w'.heap[p]?=some (.cells #[.iface tP (.pointer (some ⟨pm,0,none⟩)),.iface K.T (.pointer (some ⟨pp,0,none⟩)),.iface K.T (.pointer (some ⟨pn,0,none⟩)),.float .f64 0] 108 (0,0)) ∧
    K.St most [] SP pp w'∧K.St most [] SN pn w'∧(∀ b,SP b→w.heap.size≤b∧b<p∧¬ SN b)∧(∀ b,SN b→w.heap.size≤b∧b<p)∧Fr (fun _=>False) w w'
set_option maxRecDepth 100000 in
set_option maxHeartbeats 800000 in
theorem newProv_any {kind:Int} (K:StoreKind kind) (most:Int) (tP:TypeId) (pm b0 b1:Nat) (w:World) (hk:knownB kind most=true) (h0:w.cell? ⟨b0,0,none⟩=some (.int .i64 kind)) (h1:w.cell? ⟨b1,0,none⟩=some (.int .i64 most)) :
    Calls Tryz.prog 59 #[.iface tP (.pointer (some ⟨pm,0,none⟩)),.func (.func 37) #[] #[.pointer (some ⟨b0,0,none⟩),.pointer (some ⟨b1,0,none⟩)]] w fun e w'=>NewDD K most tP pm w e w':=by
  have H1:=prov_any K most b0 b1 w hk h0 h1
  have HL0:=World.block_lt_of_cell? w _ h0
  have HL1:=World.block_lt_of_cell? w _ h1
  have H2:∀ w',Fr (fun _=>False) w w'→Calls Tryz.prog 37 #[.pointer (some ⟨b0,0,none⟩),.pointer (some ⟨b1,0,none⟩)] w' fun e w''=>∃ p S,e = .returned (.iface K.T (.pointer (some ⟨p,0,none⟩)))∧K.St most [] S p w''∧(∀ k,S k→w'.heap.size≤k)∧Fr (fun _=>False) w' w'' :=
    fun w' hf=>prov_any K most b0 b1 w' hk (hf.cell h0 (fun h=>h)) (hf.cell h1 (fun h=>h))
  have hcf:∀ args w,(callFunc 37 args).run Tryz.prog w = .ok (.enter 37 args) w:=fun args w=>run_enter Tryz.func37 (by kernel_rfl) rfl args w
  clear hk h0 h1
  go_enter Tryz.func59,Tryz.ntmps59
  go_wp2_with fail
  refine H1.mono ?_
  clear H1
  rintro e w1 ⟨pp,SP,rfl,hsp,hSP,hf1⟩
  have H3:=H2 w1 hf1
  have HSP:=Lib.hid hsp
  have HLP:=Lib.hid hSP
  have HF1:=Lib.hid hf1
  clear hsp hSP hf1 H2
  go_wp2_with fail
  refine H3.mono ?_
  clear H3
  rintro e w2 ⟨pn,SN,rfl,hsn,hSN,hf2⟩
  have HSN:=Lib.hid hsn
  have HLN:=Lib.hid hSN
  have HF2:=Lib.hid hf2
  have H4:=newDD_any tP K.T pm pp pn w2
  clear hsn hSN hf2
  go_wp2_with (go_at_call 74; (with_reducible refine H4.mono ?_); rintro e w3 ⟨p,rfl,rfl,h3,hb3⟩; have H3:=Lib.hid h3; have HB3:=Lib.hid hb3; clear h3 hb3 H4)
  go_ret
  have f23:Fr (fun _=>False) w2 w3:=(Fr.of_below HB3.out).mono (fun i hi h=>absurd hi (Nat.not_lt.2 h))
  have lp:=K.lt most [] SP pp w1 HSP.out
  have ln:=K.lt most [] SN pn w2 HSN.out
  have z1:=HF1.out.size
  have z2:=HF2.out.size
  refine ⟨w2.heap.size,pp,pn,SP,SN,rfl,by omega,H3.out,K.fr most [] SP pp _ w1 w3 HSP.out (HF2.out.trans f23 (fun _ _ h=>h) (fun _ _ h=>h)) (fun _ _ h=>h),K.fr most [] SN pn _ w2 w3 HSN.out f23 (fun _ _ h=>h),fun b hb=>⟨HLP.out b hb,?_,fun hn=>?_⟩,fun b hb=>⟨?_,ln b hb⟩,(HF1.out.trans HF2.out (fun _ _ h=>h) (fun _ _ h=>h)).trans f23 (fun _ _ h=>h) (fun _ _ h=>h)⟩
  · have:=lp b hb; omega
  · have h1:=lp b hb
    have h2:=HLN.out b hn
    omega
  · have:=HLN.out b hb; omega
def NewSk {kind:Int} (K:StoreKind kind) (tP t:TypeId) (most:Int) (g off mult mn mx pm:Nat) (w:World) (e:Ending) (w':World):Prop :=
  ∃ pe pd pt pp pn SP SN,e = .returned (.pointer (some ⟨pe,0,none⟩))∧Sk K tP t most g off mult mn mx [] [] 0 0 0 0 0 9218868437227405312 18442240474082181120 SP SN pe pd pt pm pp pn w' ∧
    w.heap.size≤pd∧w.heap.size≤pt∧w.heap.size≤pe∧(∀ b,SP b∨SN b→w.heap.size≤b)∧Fr (fun _=>False) w w'
set_option maxRecDepth 100000 in
set_option maxHeartbeats 800000 in
theorem newSk_any {kind:Int} (K:StoreKind kind) (tP t:TypeId) (most:Int) (g off mult mn mx pm b0 b1:Nat) (w:World) (hk:knownB kind most=true) (h0:w.cell? ⟨b0,0,none⟩=some (.int .i64 kind)) (h1:w.cell? ⟨b1,0,none⟩=some (.int .i64 most)) (hm:Map5 t w pm g off mult mn mx) :
    Calls Tryz.prog 36 #[.iface tP (.pointer (some ⟨pm,0,none⟩)),.func (.func 37) #[] #[.pointer (some ⟨b0,0,none⟩),.pointer (some ⟨b1,0,none⟩)]] w fun e w'=>NewSk K tP t most g off mult mn mx pm w e w':=by
  have H1:=newProv_any K most tP pm b0 b1 w hk h0 h1
  have HM:=Lib.hid hm
  clear hk h0 h1 hm
  go_enter Tryz.func36,Tryz.ntmps36
  go_wp2_with fail
  refine H1.mono ?_
  clear H1
  rintro e w1 ⟨pd,pp,pn,SP,SN,rfl,hpd,hbd,hsp,hsn,hSP,hSN,hf⟩
  have HBD:=Lib.hid hbd
  have HSP:=Lib.hid hsp
  have HSN:=Lib.hid hsn
  have HLP:=Lib.hid hSP
  have HLN:=Lib.hid hSN
  have HF:=Lib.hid hf
  clear hbd hsp hsn hSP hSN hf
  go_wp2_with (go_at_call 60; (with_reducible refine (newStat_any _).mono ?_); rintro e w2 ⟨pt,rfl,hpt,h6,hb2⟩; have H6:=Lib.hid h6; have HB2:=Lib.hid hb2; have HPT:=Lib.hid hpt; clear h6 hb2 hpt)
  go_ret
  have z1:=HF.out.size
  have z2:=HB2.out.size
  have lt6:=lt_of_block H6.out
  have ltd:=lt_of_block HBD.out
  have ltm:=lt_of_block HM.out
  have hpt:=HPT.out
  have fb2:Fr (fun _=>False) w1 w2:=(Fr.of_below HB2.out).mono (fun i hi h=>absurd hi (Nat.not_lt.2 h))
  have fal:∀ o,Fr (fun _=>False) w2 (w2.alloc o):=fun o=>(Fr.refl _ w2).alloc _
  have lp:=fun b hb=>(HLP.out b hb).2.1
  have ln:=fun b hb=>(HLN.out b hb).2
  have f13:∀ o,Fr (fun _=>False) w1 (w2.alloc o):=fun o=>fb2.trans (fal o) (fun _ _ h=>h) (fun _ _ h=>h)
  refine ⟨w2.heap.size,pd,pt,pp,pn,SP,SN,rfl,⟨heap_alloc_new _ _,(f13 _).heap HBD.out (fun h=>h),(fal _).heap H6.out (fun h=>h),(HF.out.trans (f13 _) (fun _ _ h=>h) (fun _ _ h=>h)).heap HM.out (fun h=>h),K.fr most [] SP pp _ w1 _ HSP.out (f13 _) (fun _ _ h=>h),K.fr most [] SN pn _ w1 _ HSN.out (f13 _) (fun _ _ h=>h),fun b hb=>(HLP.out b hb).2.2,fun b hb=>?_,by omega,by omega,by omega⟩,hpd,by omega,by omega,fun b hb=>hb.elim (fun h=>(HLP.out b h).1) (fun h=>(HLN.out b h).1),HF.out.trans (f13 _) (fun _ _ h=>h) (fun _ _ h=>h)⟩
  have hlt:b<pd∧w.heap.size≤b:=hb.elim (fun h=>⟨lp b h,(HLP.out b h).1⟩) (fun h=>⟨ln b h,(HLN.out b h).1⟩)
  omega
end Go.Proofs.YtllaekopaglolaaGreat
end
/-
  A value is added to a sketch.
-/
section
namespace Go.Proofs.YtllaekopaglolaaGreat
open Go.RowKit
def Added1 {kind:Int} (K:StoreKind kind) (most:Int) (xs:Bins) (S:Nat→Prop) (p:Nat) (w:World) (e:Ending) (w':World):Prop :=
  e = .returned .nilIface∧∃ S',K.St most xs S' p w'∧Fr S w w'∧∀ b,S' b→S b∨w.heap.size≤b
section
variable {kind mk:Int} {K:StoreKind kind} (Q:SkKind K) {of_:Nat→Option (Nat × Nat × Nat × Nat × Nat)} {acc:Nat→Option Nat} {idx:Nat→Nat→Nat→Option Int} {lower:Nat→Nat→Int→Option Nat} {value:Nat→Nat→Nat→Int→Option Nat} (M:MapKind mk of_ acc idx lower value)
set_option maxRecDepth 100000 in
set_option maxHeartbeats 2000000 in
theorem ddAddP_any (most:Int) (pd pm pp pn g off mult mn mx z v c:Nat) (i:Int) (ps:Bins) (S:Nat→Prop) (w:World)
   (hbd:w.heap[pd]?=some (.cells #[.iface M.tP (.pointer (some ⟨pm,0,none⟩)),.iface K.T (.pointer (some ⟨pp,0,none⟩)),.iface K.T (.pointer (some ⟨pn,0,none⟩)),.float .f64 (nf z)] 108 (0,0)))
   (hm:Map5 M.t w pm g off mult mn mx) (hs:K.St most ps S pp w) (hk:knownB kind most=true) (hr:InR ps) (hp:Pos ps) (ht:tot ps+c<1000000000) (hl:ps.length<1000) (i0:-10000≤i) (i1:i≤10000) (hc:0<c)
   (hn0:flt (nf c) 0=false) (h1:fgt v mn=true) (h2:fgt v mx=false) (hi:idx off mult v=some i) :
    Calls Tryz.prog 61 #[.pointer (some ⟨pd,0,none⟩),.float .f64 v,.float .f64 (nf c)] w fun e w'=>Added1 K most (ps++[(i,c)]) S pp w e w':=by
  have d0:=cell_of_row _ _ 0 _ _ _ hbd
  have d1:=cell_of_row _ _ 1 _ _ _ hbd
  have k0:(FloatKind.f64.format.order (nf c) 0 == some .lt)=false:=hn0
  have k1:(FloatKind.f64.format.order v mn == some .gt)=true:=h1
  have k2:(FloatKind.f64.format.order v mx == some .gt)=false:=h2
  have CN:=M.cMin pm g off mult mn mx w hm
  have CX:=M.cMax pm g off mult mn mx w hm
  have CI:∀ n,Calls Tryz.prog M.fIdx #[.pointer (some ⟨pm,0,none⟩),.float .f64 v] (w.drewN n) fun e w'=>Reads (.int .i64 i) (w.drewN n) e w':=fun n=>M.cIdx pm g off mult mn mx v i (w.drewN n) hm hi
  have CA:∀ n,Calls Tryz.prog K.fAdd #[.pointer (some ⟨pp,0,none⟩),.int .i64 i,.float .f64 (nf c)] (w.drewN n) fun e w'=>e = .returned (.tuple #[])∧∃ S',K.St most (ps++[(i,c)]) S' pp w'∧Fr S (w.drewN n) w'∧∀ k,S' k→S k∨(w.drewN n).heap.size≤k :=
    fun n=>K.add most ps S pp i c (w.drewN n) hk (K.fr most ps S pp (fun _=>False) w _ hs ((Fr.refl _ w).drewN n) (fun _ _ h=>h)) hr hp ht hl i0 i1 hc
  have CI0:Calls Tryz.prog M.fIdx #[.pointer (some ⟨pm,0,none⟩),.float .f64 v] w.drew fun e w'=>Reads (.int .i64 i) w.drew e w':=CI 1
  have mN:=M.mMin pm
  have mX:=M.mMax pm
  have mI:=M.mIdx pm
  have mA:=K.mAdd pp
  have eN:=M.eMin
  have eX:=M.eMax
  have eI:=M.eIdx
  have eA:=K.eAdd
  obtain ⟨nc,hnc⟩:∃ y,y=nf c:=⟨_,rfl⟩
  rw [← hnc] at k0 CA ⊢
  clear hbd hm hs hk hr hp ht hl hc hn0 h1 h2 hi hnc
  go_enter Tryz.func61,Tryz.ntmps61
  go_wp2_with (first | (go_at_fn M.fMin; (with_reducible refine CN.mono ?_); rintro e wa ⟨rfl,rfl⟩) | (go_at_fn M.fMax; (with_reducible refine CX.mono ?_); rintro e wb ⟨rfl,rfl⟩))
  go_region_law (first | (go_simp; go_at_fn M.fIdx; (with_reducible refine CI0.mono ?_); rintro e wi ⟨rfl,ki,rfl⟩) | (go_simp; go_at_fn K.fAdd; (with_reducible refine (CA _).mono ?_); rintro e ws ⟨rfl,S',hs',hf',hS'⟩; have HS:=Lib.hid hs'; have HF:=Lib.hid hf'; have HL:=Lib.hid hS'; clear hs' hf' hS'))
  all_goals
    go_wp2
    go_ret
    exact ⟨rfl,S',HS.out,⟨HF.out.os,HF.out.tape,HF.out.output,HF.out.size,HF.out.block⟩,HL.out⟩
set_option maxRecDepth 100000 in
set_option maxHeartbeats 2000000 in
theorem ddAddN_any (most:Int) (pd pm pp pn g off mult mn mx z v c:Nat) (i:Int) (ns:Bins) (S:Nat→Prop) (w:World)
   (hbd:w.heap[pd]?=some (.cells #[.iface M.tP (.pointer (some ⟨pm,0,none⟩)),.iface K.T (.pointer (some ⟨pp,0,none⟩)),.iface K.T (.pointer (some ⟨pn,0,none⟩)),.float .f64 (nf z)] 108 (0,0)))
   (hm:Map5 M.t w pm g off mult mn mx) (hs:K.St most ns S pn w) (hk:knownB kind most=true) (hr:InR ns) (hp:Pos ns) (ht:tot ns+c<1000000000) (hl:ns.length<1000) (i0:-10000≤i) (i1:i≤10000) (hc:0<c)
   (hn0:flt (nf c) 0=false) (h1:fgt v mn=false) (h2:flt v (negF mn)=true) (h3:flt v (negF mx)=false) (hi:idx off mult (negF v)=some i) :
    Calls Tryz.prog 61 #[.pointer (some ⟨pd,0,none⟩),.float .f64 v,.float .f64 (nf c)] w fun e w'=>Added1 K most (ns++[(i,c)]) S pn w e w':=by
  have d0:=cell_of_row _ _ 0 _ _ _ hbd
  have d2:=cell_of_row _ _ 2 _ _ _ hbd
  have k0:(FloatKind.f64.format.order (nf c) 0 == some .lt)=false:=hn0
  have k1:(FloatKind.f64.format.order v mn == some .gt)=false:=h1
  have k2:(FloatKind.f64.format.order v (negF mn) == some .lt)=true:=h2
  have k3:(FloatKind.f64.format.order v (negF mx) == some .lt)=false:=h3
  have CN:=M.cMin pm g off mult mn mx w hm
  have CX:=M.cMax pm g off mult mn mx w hm
  have CI:∀ n,Calls Tryz.prog M.fIdx #[.pointer (some ⟨pm,0,none⟩),.float .f64 (negF v)] (w.drewN n) fun e w'=>Reads (.int .i64 i) (w.drewN n) e w':=fun n=>M.cIdx pm g off mult mn mx (negF v) i (w.drewN n) hm hi
  have CA:∀ n,Calls Tryz.prog K.fAdd #[.pointer (some ⟨pn,0,none⟩),.int .i64 i,.float .f64 (nf c)] (w.drewN n) fun e w'=>e = .returned (.tuple #[])∧∃ S',K.St most (ns++[(i,c)]) S' pn w'∧Fr S (w.drewN n) w'∧∀ k,S' k→S k∨(w.drewN n).heap.size≤k :=
    fun n=>K.add most ns S pn i c (w.drewN n) hk (K.fr most ns S pn (fun _=>False) w _ hs ((Fr.refl _ w).drewN n) (fun _ _ h=>h)) hr hp ht hl i0 i1 hc
  have CI0:Calls Tryz.prog M.fIdx #[.pointer (some ⟨pm,0,none⟩),.float .f64 (negF v)] w.drew fun e w'=>Reads (.int .i64 i) w.drew e w':=CI 1
  have mN:=M.mMin pm
  have mX:=M.mMax pm
  have mI:=M.mIdx pm
  have mA:=K.mAdd pn
  have eN:=M.eMin
  have eX:=M.eMax
  have eI:=M.eIdx
  have eA:=K.eAdd
  obtain ⟨nc,hnc⟩:∃ y,y=nf c:=⟨_,rfl⟩
  rw [← hnc] at k0 CA ⊢
  clear hbd hm hs hk hr hp ht hl hc hn0 h1 h2 h3 hi hnc
  go_enter Tryz.func61,Tryz.ntmps61
  go_wp2_with (first | (go_at_fn M.fMin; (with_reducible refine CN.mono ?_); rintro e wa ⟨rfl,rfl⟩) | (go_at_fn M.fMax; (with_reducible refine CX.mono ?_); rintro e wb ⟨rfl,rfl⟩))
  go_region_law (first | (go_simp; go_at_fn M.fIdx; (with_reducible refine CI0.mono ?_); rintro e wi ⟨rfl,ki,rfl⟩) | (go_simp; go_at_fn K.fAdd; (with_reducible refine (CA _).mono ?_); rintro e ws ⟨rfl,S',hs',hf',hS'⟩; have HS:=Lib.hid hs'; have HF:=Lib.hid hf'; have HL:=Lib.hid hS'; clear hs' hf' hS'))
  all_goals
    go_wp2
    go_ret
    exact ⟨rfl,S',HS.out,⟨HF.out.os,HF.out.tape,HF.out.output,HF.out.size,HF.out.block⟩,HL.out⟩
set_option maxRecDepth 100000 in
set_option maxHeartbeats 800000 in
theorem ddAddZ_any (pd pm pp pn g off mult mn mx z v c:Nat) (w:World)
   (hbd:w.heap[pd]?=some (.cells #[.iface M.tP (.pointer (some ⟨pm,0,none⟩)),.iface K.T (.pointer (some ⟨pp,0,none⟩)),.iface K.T (.pointer (some ⟨pn,0,none⟩)),.float .f64 (nf z)] 108 (0,0)))
   (hm:Map5 M.t w pm g off mult mn mx) (hzc:z+c<9007199254740992) (hn0:flt (nf c) 0=false) (h1:fgt v mn=false) (h2:flt v (negF mn)=false) (hn:isNum v=true) :
    Calls Tryz.prog 61 #[.pointer (some ⟨pd,0,none⟩),.float .f64 v,.float .f64 (nf c)] w fun e w'=>e = .returned .nilIface∧w'=w.setCell ⟨pd,3,none⟩ (.float .f64 (nf (z+c))):=by
  have d0:=cell_of_row _ _ 0 _ _ _ hbd
  have d3:=cell_of_row _ _ 3 _ _ _ hbd
  have f3:=frozen_of_row w pd 3 _ _ hbd
  have k0:(FloatKind.f64.format.order (nf c) 0 == some .lt)=false:=hn0
  have k1:(FloatKind.f64.format.order v mn == some .gt)=false:=h1
  have k2:(FloatKind.f64.format.order v (negF mn) == some .lt)=false:=h2
  have CN:=M.cMin pm g off mult mn mx w hm
  have HN:=fun w=>isNaN_num v w hn
  have q:=fun w:World=>run_float_arith (P:=Tryz.prog) w .add 29 .f64 _ _ _ (nf_add z c hzc)
  have mN:=M.mMin pm
  have eN:=M.eMin
  obtain ⟨nc,hnc⟩:∃ y,y=nf c:=⟨_,rfl⟩
  rw [← hnc] at k0 q ⊢
  obtain ⟨nz,hnz⟩:∃ y,y=nf z:=⟨_,rfl⟩
  rw [← hnz] at d3 q
  obtain ⟨ny,hny⟩:∃ y,y=nf (z+c):=⟨_,rfl⟩
  rw [← hny] at q ⊢
  clear hbd hm hzc hn0 h1 h2 hn hnc hnz hny
  go_enter Tryz.func61,Tryz.ntmps61
  go_wp2_with (first | (go_at_fn M.fMin; (with_reducible refine CN.mono ?_); rintro e wa ⟨rfl,rfl⟩) | (go_at_call 67; (with_reducible refine (HN _).mono ?_); rintro e wb ⟨rfl,rfl⟩))
  go_ret
  exact ⟨rfl,rfl⟩
end
end Go.Proofs.YtllaekopaglolaaGreat
end
/-
  spec.Fits,whatever the float.
-/
section
namespace Go.Proofs.YtllaekopaglolaaGreat
open Go.RowKit
theorem order_nan {n:Nat} (h:9218868437227405312<n % 9223372036854775808) (z:Nat):FloatKind.f64.format.order n z=none:=by
  have e1:Ieee.double.signWeight=9223372036854775808:=by decide
  have e2:Ieee.double.binade=4503599627370496:=by decide
  have e3:Ieee.double.infRung=9218868437227405312:=by decide
  show (Ieee.double.read n).order (Ieee.double.read z)=none
  have:∃ s t,Ieee.double.read n = .nan s t:=by
    unfold Ieee.Format.read
    rw [e1,e2,e3]
    dsimp only
    rw [if_neg (by omega),if_neg (by omega),if_neg (by omega)]
    exact ⟨_,_,rfl⟩
  obtain ⟨s,t,hr⟩:=this
  rw [hr]
  unfold Ieee.Datum.order
  cases Ieee.double.read z <;> rfl
theorem run_max_nan {P:Program} (w:World) (x y:Nat) (h:maxO x y=none):∃ n,(∀ z,FloatKind.f64.format.order n z=none)∧∀ ts t,(Builtin.max_ ts t #[.float .f64 x,.float .f64 y]).run P w = .ok (.float .f64 n) w.drew:=by
  unfold maxO at h
  cases ho:FloatKind.f64.format.order x y with
  | none =>
    refine ⟨_,?_,fun ts t=>by simp [Builtin.max_,Builtin.max2,ho,Question.forced]; rfl⟩
    intro z
    refine order_nan ?_ z
    unfold Question.cut
    dsimp only
    generalize w.tape w.drawn _=t
    rw [show (2:Nat)^63=9223372036854775808 from by decide,show (2:Nat)^52=4503599627370496 from by decide]
    have hr:=Nat.mod_lt (t / 2) (show 0<4503599627370496 - 1 by decide)
    have hs:=Nat.mod_lt t (show 0<2 by decide)
    generalize t / 2 % (4503599627370496 - 1)=r at *
    generalize t % 2=s at *
    have:s=0∨s=1:=by omega
    rcases this with h | h <;> subst h <;> omega
  | some c =>
    rw [ho] at h
    cases c <;> cases h
def fitsB (v:Nat):Bool:=match maxO v (negF v) with | some a=>feq v 0||(fge a 4517329193108106637&&fle a 4696837146684686336) | none=>feq v 0
set_option maxRecDepth 100000 in
set_option maxHeartbeats 800000 in
theorem fits_any (v:Nat) (w:World):Calls Tryz.prog 12 #[.float .f64 v] w fun e w'=>e = .returned (.bool (fitsB v))∧∃ k,w'=w.drewN k:=by
  unfold fitsB
  cases hm:maxO v (negF v) with
  | some m =>
    have q2:=fun (w:World) ts t=>run_max_float (P:=Tryz.prog) w ts t v (negF v) m hm
    clear hm
    dsimp only
    obtain ⟨b0,h0⟩:∃ b,feq v 0=b:=⟨_,rfl⟩
    obtain ⟨b1,h1⟩:∃ b,fge m 4517329193108106637=b:=⟨_,rfl⟩
    obtain ⟨b2,h2⟩:∃ b,fle m 4696837146684686336=b:=⟨_,rfl⟩
    rw [h0,h1,h2]
    have k0:(FloatKind.f64.format.order v 0 == some .eq)=b0:=h0
    have k1:(FloatKind.f64.format.order m 4517329193108106637 == some .gt||FloatKind.f64.format.order m 4517329193108106637 == some .eq)=b1:=h1
    have k2:(FloatKind.f64.format.order m 4696837146684686336 == some .lt||FloatKind.f64.format.order m 4696837146684686336 == some .eq)=b2:=h2
    clear h0 h1 h2
    cases b0 <;> cases b1 <;> cases b2 <;> (
      go_enter Tryz.func12,Tryz.ntmps12
      go_wp2
      go_ret
      exact ⟨rfl,0,rfl⟩)
  | none =>
    obtain ⟨n,hn,hr⟩:=run_max_nan (P:=Tryz.prog) w v (negF v) hm
    clear hm
    dsimp only
    obtain ⟨b0,h0⟩:∃ b,feq v 0=b:=⟨_,rfl⟩
    rw [h0]
    have k0:(FloatKind.f64.format.order v 0 == some .eq)=b0:=h0
    have k1:(FloatKind.f64.format.order n 4517329193108106637 == some .gt||FloatKind.f64.format.order n 4517329193108106637 == some .eq)=false:=by rw [hn]; rfl
    clear h0
    cases b0 <;> (
      go_enter Tryz.func12,Tryz.ntmps12
      go_wp2
      go_ret
      exact ⟨rfl,1,rfl⟩)
end Go.Proofs.YtllaekopaglolaaGreat
end
/-
  What spec.Fits tells of a float's bits.
-/
section
namespace Go.Proofs.YtllaekopaglolaaGreat
open Go.RowKit
open Ieee
theorem fits_inf (s:Bool):fitsB ((if s then 9223372036854775808 else 0)+9218868437227405312)=false:=by
  cases s <;> decide +kernel
theorem fits_fin {v:Nat} (hv:v<18446744073709551616) (h:fitsB v=true):finB v=true:=by
  by_cases h1:v % 9223372036854775808<9218868437227405312
  · unfold finB
    rw [Bool.and_eq_true,Nat.blt_eq,Nat.blt_eq]
    exact ⟨h1,hv⟩
  · exfalso
    by_cases h2:v % 9223372036854775808=9218868437227405312
    · have e:v=(if decide (9223372036854775808≤v) then 9223372036854775808 else 0)+9218868437227405312:=by
        by_cases h3:9223372036854775808≤v
        · simp [h3]; omega
        · simp [h3]; omega
      rw [e,fits_inf] at h
      cases h
    · have hn:=order_nan (n:=v) (by omega)
      unfold fitsB maxO at h
      rw [hn] at h
      unfold feq at h
      rw [hn] at h
      cases h
theorem fits_parts {v:Nat} (hv:v<18446744073709551616) (h:fitsB v=true):∃ s:Bool,∃ r:Nat,v=(if s then 9223372036854775808 else 0)+r∧FV v ((if s then (-1:Int) else 1)*((rungV r:Nat):Int))∧(r=0∨(4517329193108106637≤r∧r≤4696837146684686336)):=by
  obtain ⟨s0,hf0,-⟩:=finB_fv (fits_fin hv h)
  obtain ⟨s,r,hr,hx,ha⟩:=fv_parts hf0
  rw [ha] at hf0
  refine ⟨s,r,hx,hf0,?_⟩
  obtain ⟨m,hm,fm⟩:=maxO_abs hf0
  have hab:((if s then (-1:Int) else 1)*((rungV r:Nat):Int)).natAbs=rungV r:=natAbs_signed s _
  rw [hab] at fm
  unfold fitsB at h
  rw [hm] at h
  dsimp only at h
  rw [feq_fv hf0 fv_zero,fge_fv fm (fv_rv (x:=4517329193108106637) (by decide) (by decide)),fle_fv fm (fv_rv (x:=4696837146684686336) (by decide) (by decide))] at h
  simp only [Bool.or_eq_true,Bool.and_eq_true,decide_eq_true_eq] at h
  rcases h with h | ⟨h1,h2⟩
  · left
    have:rungV r=0:=by
      have:=congrArg Int.natAbs h
      rw [hab] at this; exact this
    exact rungV_zero.1 this
  · right
    rw [rvN_rung (by decide)] at h1 h2
    have k1:¬ rungV r<rungV 4517329193108106637:=by have:=Int.ofNat_le.1 h1; omega
    have k2:¬ rungV 4696837146684686336<rungV r:=by have:=Int.ofNat_le.1 h2; omega
    rw [rungV_lt] at k1 k2
    omega
end Go.Proofs.YtllaekopaglolaaGreat
end
