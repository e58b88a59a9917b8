/-
  Equals of each mapping with one of the same numbers. (Printed by gen_mapeqk.py.)
-/
import Derived.Test.YtllaekopaglolaaGreatHBS
import Derived.Test.YtllaekopaglolaaGreatHBD
import Derived.Test.YtllaekopaglolaaGreatHBR
import Derived.Deep.QuietTactic
import Derived.BigQuiet
import Derived.Test.YtllaekopaglolaaGreatHBE
import Derived.Test.YtllaekopaglolaaGreatHAL
import Derived.StillTailTactics
section
namespace Go.Proofs.YtllaekopaglolaaGreat
open Go.RowKit
def zAa (x:Nat):Bool:=x == 0||zSJ x
theorem zHy (x:Nat) (h:zAa x=true) (w:World):Calls Tryz.prog 138 #[.float .f64 x,.float .f64 x,.float .f64 4427486594234968593] w fun e w'=>e = .returned (.bool true)∧w=w':=by
  unfold zAa at h
  rcases Bool.or_eq_true _ _ ▸ h with h | h
  · obtain rfl:x=0:=by simpa using h
    exact zJc w
  · exact zJd x w h
structure zGS {mk:Int} {of_:Nat→Option (Nat × Nat × Nat × Nat × Nat)} {acc:Nat→Option Nat} {idx:Nat→Nat→Nat→Option Int} {lower:Nat→Nat→Int→Option Nat} {value:Nat→Nat→Nat→Int→Option Nat} (M:zBK mk of_ acc idx lower value) where
  fE:FuncId
  mE:∀ p w,(method 339 M.tP (.pointer (some ⟨p,0,none⟩)) "Equals").run Tryz.prog w = .ok (fE,.pointer (some ⟨p,0,none⟩)) w
  eE:∀ args w,(callFunc fE args).run Tryz.prog w = .ok (.enter fE args) w
  cE:∀ m n g off mult mn mx w,Map5 M.t w m g off mult mn mx→Map5 M.t w n g off mult mn mx→zAa g=true→zAa off=true →
    Calls Tryz.prog fE #[.pointer (some ⟨m,0,none⟩),.iface M.tP (.pointer (some ⟨n,0,none⟩))] w fun e w'=>e = .returned (.bool true)∧∃ k,w'=w.drewN k
set_option maxRecDepth 100000 in
set_option maxHeartbeats 400000 in
theorem zSv (m n g off mult mn mx:Nat) (w:World) (hm:Map5 143 w m g off mult mn mx) (hn:Map5 143 w n g off mult mn mx) (h1:zAa g=true) (h2:zAa off=true) :
    Calls Tryz.prog 131 #[.pointer (some ⟨m,0,none⟩),.iface 84 (.pointer (some ⟨n,0,none⟩))] w fun e w'=>e = .returned (.bool true)∧∃ k,w'=w.drewN k:=by
  unfold Map5 at hm hn
  have c0:=cell_of_row _ _ 0 _ _ _ hm
  have c1:=cell_of_row _ _ 1 _ _ _ hm
  have d0:=cell_of_row _ _ 0 _ _ _ hn
  have d1:=cell_of_row _ _ 1 _ _ _ hn
  have h1:=zHy g h1
  have h2:=zHy off h2
  have hta:∀ (v:Value) (w:World),(Instr.typeAssert (.iface 84 v) 67 84 true).run Tryz.prog w = .ok (.tuple #[v,.bool true]) w:=fun v w=>zBd _ _ 143 v Tryz.underlying84 w
  clear hm hn
  go_enter Tryz.func131,Tryz.ntmps131
  go_wp2
  go_quiet ((go_at_call 138; first | (with_reducible exact zAl (h1 _)) | (with_reducible exact zAl (h2 _))))
  go_wp2
  go_ret
  exact ⟨rfl,nq,rfl⟩
def zWn:zGS zOE where
  fE:=131
  mE:=fun p w=>by kernel_rfl
  eE:=enters_of Tryz.func131 (by kernel_rfl) rfl
  cE:=zSv
set_option maxRecDepth 100000 in
set_option maxHeartbeats 400000 in
theorem zSw (m n g off mult mn mx:Nat) (w:World) (hm:Map5 144 w m g off mult mn mx) (hn:Map5 144 w n g off mult mn mx) (h1:zAa g=true) (h2:zAa off=true) :
    Calls Tryz.prog 140 #[.pointer (some ⟨m,0,none⟩),.iface 87 (.pointer (some ⟨n,0,none⟩))] w fun e w'=>e = .returned (.bool true)∧∃ k,w'=w.drewN k:=by
  unfold Map5 at hm hn
  have c0:=cell_of_row _ _ 0 _ _ _ hm
  have c1:=cell_of_row _ _ 1 _ _ _ hm
  have d0:=cell_of_row _ _ 0 _ _ _ hn
  have d1:=cell_of_row _ _ 1 _ _ _ hn
  have h1:=zHy g h1
  have h2:=zHy off h2
  have hta:∀ (v:Value) (w:World),(Instr.typeAssert (.iface 87 v) 67 87 true).run Tryz.prog w = .ok (.tuple #[v,.bool true]) w:=fun v w=>zBd _ _ 144 v Tryz.underlying87 w
  clear hm hn
  go_enter Tryz.func140,Tryz.ntmps140
  go_wp2
  go_quiet ((go_at_call 138; first | (with_reducible exact zAl (h1 _)) | (with_reducible exact zAl (h2 _))))
  go_wp2
  go_ret
  exact ⟨rfl,nq,rfl⟩
def zWo:zGS zOF where
  fE:=140
  mE:=fun p w=>by kernel_rfl
  eE:=enters_of Tryz.func140 (by kernel_rfl) rfl
  cE:=zSw
set_option maxRecDepth 100000 in
set_option maxHeartbeats 400000 in
theorem zSx (m n g off mult mn mx:Nat) (w:World) (hm:Map5 145 w m g off mult mn mx) (hn:Map5 145 w n g off mult mn mx) (h1:zAa g=true) (h2:zAa off=true) :
    Calls Tryz.prog 155 #[.pointer (some ⟨m,0,none⟩),.iface 90 (.pointer (some ⟨n,0,none⟩))] w fun e w'=>e = .returned (.bool true)∧∃ k,w'=w.drewN k:=by
  unfold Map5 at hm hn
  have c0:=cell_of_row _ _ 0 _ _ _ hm
  have c1:=cell_of_row _ _ 1 _ _ _ hm
  have d0:=cell_of_row _ _ 0 _ _ _ hn
  have d1:=cell_of_row _ _ 1 _ _ _ hn
  have h1:=zHy g h1
  have h2:=zHy off h2
  have hta:∀ (v:Value) (w:World),(Instr.typeAssert (.iface 90 v) 67 90 true).run Tryz.prog w = .ok (.tuple #[v,.bool true]) w:=fun v w=>zBd _ _ 145 v Tryz.underlying90 w
  clear hm hn
  go_enter Tryz.func155,Tryz.ntmps155
  go_wp2
  go_quiet ((go_at_call 138; first | (with_reducible exact zAl (h1 _)) | (with_reducible exact zAl (h2 _))))
  go_wp2
  go_ret
  exact ⟨rfl,nq,rfl⟩
def zWp:zGS zOG where
  fE:=155
  mE:=fun p w=>by kernel_rfl
  eE:=enters_of Tryz.func155 (by kernel_rfl) rfl
  cE:=zSx
end Go.Proofs.YtllaekopaglolaaGreat
end
/-
  A sketch into which another one is merged,without the summaries.
-/
section
namespace Go.Proofs.YtllaekopaglolaaGreat
open Go.RowKit
structure DD {kind:Int} (K:zAD kind) (tP t:TypeId) (most:Int) (g off mult mn mx:Nat) (ps ns:Bins) (z:Nat) (SP SN:Nat→Prop) (pd pm pp pn:Nat) (w:World):Prop where
  bd:w.heap[pd]?=some (.cells #[.iface tP (.pointer (some ⟨pm,0,none⟩)),.iface K.T (.pointer (some ⟨pp,0,none⟩)),.iface K.T (.pointer (some ⟨pn,0,none⟩)),.float .f64 (nf z)] 108 (0,0))
  bm:Map5 t w pm g off mult mn mx
  sp:K.St most ps SP pp w
  sn:K.St most ns SN pn w
  dj:∀ b,SP b→¬ SN b
  own:∀ b,SP b∨SN b→b≠pd∧b≠pm
  nm:pm≠pd
theorem Sk.ddm {kind:Int} {K:zAD kind} {tP t:TypeId} {most:Int} {g off mult mn mx:Nat} {ps ns:Bins} {z c s k l lo hi:Nat} {SP SN:Nat→Prop} {pe pd pt pm pp pn:Nat} {w:World} (h:Sk K tP t most g off mult mn mx ps ns z c s k l lo hi SP SN pe pd pt pm pp pn w):DD K tP t most g off mult mn mx ps ns z SP SN pd pm pp pn w :=
  ⟨h.bd,h.bm,h.sp,h.sn,h.dj,fun b hb=>⟨(h.own b hb).2.1,(h.own b hb).2.2.2⟩,h.nm.2.1⟩
theorem DD.fr {kind:Int} {K:zAD kind} {tP t:TypeId} {most:Int} {g off mult mn mx:Nat} {ps ns:Bins} {z:Nat} {SP SN:Nat→Prop} {pd pm pp pn:Nat} {w w':World} {U:Nat→Prop} (h:DD K tP t most g off mult mn mx ps ns z SP SN pd pm pp pn w) (hf:Fr U w w') (hn:∀ b,(b=pd∨b=pm∨SP b∨SN b)→¬ U b):DD K tP t most g off mult mn mx ps ns z SP SN pd pm pp pn w' :=
  ⟨hf.heap h.bd (hn _ (.inl rfl)),hf.heap h.bm (hn _ (.inr (.inl rfl))),K.fr most ps SP pp U w w' h.sp hf (fun b hb=>hn b (.inr (.inr (.inl hb)))),K.fr most ns SN pn U w w' h.sn hf (fun b hb=>hn b (.inr (.inr (.inr hb)))),h.dj,h.own,h.nm⟩
theorem DD.drew {kind:Int} {K:zAD kind} {tP t:TypeId} {most:Int} {g off mult mn mx:Nat} {ps ns:Bins} {z:Nat} {SP SN:Nat→Prop} {pd pm pp pn:Nat} {w:World} (h:DD K tP t most g off mult mn mx ps ns z SP SN pd pm pp pn w):DD K tP t most g off mult mn mx ps ns z SP SN pd pm pp pn w.drew :=
  h.fr (Fr.refl (fun _=>False) w).drew (fun _ _ h=>h)
def zVK {kind:Int} (K:zAD kind) (tP:TypeId) (most:Int) (ps ns:Bins) (z:Nat) (SP SN RP RN:Nat→Prop) (pd pm pp pn:Nat) (w:World) (e:Ending) (w':World):Prop :=
  e = .returned .nilIface∧∃ SP' SN',w'.heap[pd]?=some (.cells #[.iface tP (.pointer (some ⟨pm,0,none⟩)),.iface K.T (.pointer (some ⟨pp,0,none⟩)),.iface K.T (.pointer (some ⟨pn,0,none⟩)),.float .f64 (nf z)] 108 (0,0)) ∧
    K.St most ps SP' pp w'∧K.St most ns SN' pn w'∧Fr (fun b=>b=pd∨(SP b∨SN b)∨RP b∨RN b) w w'∧(∀ b,SP' b→SP b∨w.heap.size≤b)∧(∀ b,SN' b→SN b∨w.heap.size≤b)∧∀ b,SP' b→¬ SN' b
section
variable {kind mk:Int} {K:zAD kind} {of_:Nat→Option (Nat × Nat × Nat × Nat × Nat)} {acc:Nat→Option Nat} {idx:Nat→Nat→Nat→Option Int} {lower:Nat→Nat→Int→Option Nat} {value:Nat→Nat→Nat→Int→Option Nat} {M:zBK mk of_ acc idx lower value}
theorem zSl {most om:Int} {a b:Bins} (ha:Few kind most a) (hb:Few kind om b) (ht:tot a+tot b<1000000000) (hl:a.length+b.length<1000):zRD kind most a (zBz kind om b) :=
  ⟨ha.known,ha.inR,ha.pos,zUY hb.known hb.inR,zOL kind om hb.pos,by rw [zFN]; exact ht,by have:=zON kind om b; omega⟩
set_option maxRecDepth 100000 in
set_option maxHeartbeats 2000000 in
theorem zNS (V:zDq K) (E:zGS M) (most:Int) (g off mult mn mx z z2 pd pm pp pn rd rm rp rn:Nat) (ps ns qs ms:Bins) (SP SN RP RN:Nat→Prop) (w:World)
   (h:DD K M.tP M.t most g off mult mn mx ps ns z SP SN pd pm pp pn w) (h2:DD K M.tP M.t most g off mult mn mx qs ms z2 RP RN rd rm rp rn w)
   (sep:∀ b,(b=pd∨SP b∨SN b)→b≠rd∧b≠rm∧¬ RP b∧¬ RN b) (hg:zAa g=true) (ho:zAa off=true) (hz:z+z2<1000000000)
   (fp:Few kind most ps) (fn:Few kind most ns) (fq:Few kind most qs) (fm:Few kind most ms) (tp:tot ps+tot qs<1000000000) (tn:tot ns+tot ms<1000000000) (lp:ps.length+qs.length<1000) (ln:ns.length+ms.length<1000) :
    Calls Tryz.prog 40 #[.pointer (some ⟨pd,0,none⟩),.pointer (some ⟨rd,0,none⟩)] w fun e w'=>zVK K M.tP most (ps++qs) (ns++ms) (z+z2) SP SN RP RN pd pm pp pn w e w':=by
  have d0:=cell_of_row _ _ 0 _ _ _ h.bd
  have d1:=cell_of_row _ _ 1 _ _ _ h.bd
  have d2:=cell_of_row _ _ 2 _ _ _ h.bd
  have d3:=cell_of_row _ _ 3 _ _ _ h.bd
  have o0:=cell_of_row _ _ 0 _ _ _ h2.bd
  have o1:=cell_of_row _ _ 1 _ _ _ h2.bd
  have o2:=cell_of_row _ _ 2 _ _ _ h2.bd
  have o3:=cell_of_row _ _ 3 _ _ _ h2.bd
  have mE:=E.mE pm
  have eE:=E.eE
  have mP:=V.mM pp
  have mN:=V.mM pn
  have eM:=V.eM
  have HE:∀ n,Calls Tryz.prog E.fE #[.pointer (some ⟨pm,0,none⟩),.iface M.tP (.pointer (some ⟨rm,0,none⟩))] (w.drewN n) fun e w'=>e = .returned (.bool true)∧∃ m,w'=(w.drewN n).drewN m :=
    fun n=>E.cE pm rm g off mult mn mx (w.drewN n) h.bm h2.bm hg ho
  have HP:∀ W,Fr (fun _=>False) w W→Calls Tryz.prog V.fM #[.pointer (some ⟨pp,0,none⟩),.iface K.T (.pointer (some ⟨rp,0,none⟩))] W fun e w'=>zCi K K most most ps qs SP RP pp rp W e w' :=
    fun W hf=>V.cM most most ps qs SP RP pp rp W (K.fr most ps SP pp _ w W h.sp hf (fun _ _ h=>h)) (K.fr most qs RP rp _ w W h2.sp hf (fun _ _ h=>h)) (fun b hb hr=>(sep b (.inr (.inl hb))).2.2.1 hr) fq (zSl fp fq tp lp)
  have HN:∀ W,Fr (fun b=>SP b∨RP b) w W→Calls Tryz.prog V.fM #[.pointer (some ⟨pn,0,none⟩),.iface K.T (.pointer (some ⟨rn,0,none⟩))] W fun e w'=>zCi K K most most ns ms SN RN pn rn W e w' :=
    fun W hf=>V.cM most most ns ms SN RN pn rn W (K.fr most ns SN pn _ w W h.sn hf (fun b hb hh=>hh.elim (fun h9=>h.dj b h9 hb) (fun h9=>(sep b (.inr (.inr hb))).2.2.1 h9))) (K.fr most ms RN rn _ w W h2.sn hf (fun b hb hh=>hh.elim (fun h9=>(sep b (.inr (.inl h9))).2.2.2 hb) (fun h9=>h2.dj b h9 hb))) (fun b hb hr=>(sep b (.inr (.inr hb))).2.2.2 hr) fm (zSl fn fm tn ln)
  have hz:=fun w:World=>run_float_arith (P:=Tryz.prog) w .add 29 .f64 (nf z) (nf z2) (nf (z+z2)) (zAz z z2 (by omega))
  have H:=Lib.hid h
  have G:=Lib.hid h2
  have SEP:=Lib.hid sep
  have FQ:=Lib.hid fq
  have FM:=Lib.hid fm
  have IP:=Lib.hid fp.inR
  have IN:=Lib.hid fn.inR
  obtain ⟨y0,hy0⟩:∃ y,y=nf z:=⟨_,rfl⟩
  obtain ⟨y1,hy1⟩:∃ y,y=nf z2:=⟨_,rfl⟩
  obtain ⟨y2,hy2⟩:∃ y,y=nf (z+z2):=⟨_,rfl⟩
  rw [← hy0] at d3 hz
  rw [← hy1] at o3 hz
  rw [← hy2] at hz
  have HY:=Lib.hid (And.intro hy0 hy2)
  have HZ2:=Lib.hid hy1
  clear h h2 sep hg ho fp fn fq fm tp tn lp ln hy0 hy1 hy2
  go_enter Tryz.func40,Tryz.ntmps40
  go_wp2
  go_quiet ((go_at_fn E.fE; (with_reducible exact Calls.quiet_of (HE _))))
  go_wp2
  obtain ⟨wq,hwq⟩:∃ W,W=w.drewN nq:=⟨_,rfl⟩
  have hfq:Fr (fun _=>False) w wq:=by rw [hwq]; exact (Fr.refl _ w).drewN nq
  have d1':=hfq.cell d1 (fun h=>h)
  have o1':=hfq.cell o1 (fun h=>h)
  have HPA:=HP wq.drew hfq.drew
  have HFA:=Lib.hid hfq.drew
  rw [← hwq]
  clear hwq hfq HE HP
  go_still_tail 10,(by kernel_rfl)
  show wpList _ _ _ _ _ wq.drew
  go_wp2_with (go_at_fn V.fM; (with_reducible refine HPA.mono ?_); rintro e w2 ⟨rfl,-,SP',hst,hfr,hS'⟩; have HST:=Lib.hid (V.tells most most ps qs SP' pp w2 hst FQ.out IP.out); have HF2:=Lib.hid (HFA.out.trans hfr (U:=fun b=>SP b∨RP b) (fun _ _ h=>h.elim) (fun _ _ h=>h)); have HSP:=Lib.hid hS'; clear hst hfr hS' HPA)
  have npd:¬ (SP pd∨RP pd):=fun h=>h.elim (fun h=>(H.out.own pd (.inl h)).1 rfl) (fun h=>(SEP.out pd (.inl rfl)).2.2.1 h)
  have nrd:¬ (SP rd∨RP rd):=fun h=>h.elim (fun h=>(SEP.out rd (.inr (.inl h))).1 rfl) (fun h=>(G.out.own rd (.inl h)).1 rfl)
  have npd2:¬ (SN pd∨RN pd):=fun h=>h.elim (fun h=>(H.out.own pd (.inr h)).1 rfl) (fun h=>(SEP.out pd (.inl rfl)).2.2.2 h)
  have nrd2:¬ (SN rd∨RN rd):=fun h=>h.elim (fun h=>(SEP.out rd (.inr (.inr h))).1 rfl) (fun h=>(G.out.own rd (.inr h)).1 rfl)
  have d2':=HF2.out.cell d2 npd
  have o2':=HF2.out.cell o2 nrd
  have hbd2:=HF2.out.heap H.out.bd npd
  have hrd2:=HF2.out.heap G.out.bd nrd
  have HROW2:=Lib.hid hbd2
  have HROWR:=Lib.hid hrd2
  have N2:=Lib.hid (And.intro npd2 nrd2)
  clear npd nrd npd2 nrd2 d0 d1 d2 o0 o1 o2 d3 o3 hbd2 hrd2
  go_still_tail 10,(by kernel_rfl)
  obtain ⟨wb,hwb⟩:∃ W,W=w2.drew:=⟨_,rfl⟩
  have hfb:Fr (fun b=>SP b∨RP b) w wb:=by rw [hwb]; exact HF2.out.drew
  have hwz:wb.heap=w2.heap:=by rw [hwb]; rfl
  have hf2b:Fr (fun _=>False) w2 wb:=by rw [hwb]; exact (Fr.refl _ w2).drew
  have HNB:=HN wb hfb
  have HFB:=Lib.hid hfb
  have HWZ:=Lib.hid hwz
  have HF2B:=Lib.hid hf2b
  show wpList _ _ _ _ _ w2.drew
  rw [← hwb]
  clear hwb hfb hwz hf2b HN
  go_wp2_with (go_at_fn V.fM; (with_reducible refine HNB.mono ?_); rintro e w3 ⟨rfl,-,SN',hst,hfr,hS'⟩; have HSN:=Lib.hid (V.tells most most ns ms SN' pn w3 hst FM.out IN.out); have HF3:=Lib.hid hfr; have HSL:=Lib.hid hS'; clear hst hfr hS' HNB)
  have hrow:=HF3.out.heap (HF2B.out.heap HROW2.out (fun h=>h)) N2.out.1
  have hrowr:=HF3.out.heap (HF2B.out.heap HROWR.out (fun h=>h)) N2.out.2
  have d3:=cell_of_row _ _ 3 _ _ _ hrow
  have o3:=cell_of_row _ _ 3 _ _ _ hrowr
  rw [← HY.out.1] at d3
  rw [← HZ2.out] at o3
  have f3:=frozen_of_row w3 pd 3 _ _ hrow
  have HROW:=Lib.hid hrow
  clear hrow hrowr
  go_still_tail 11,(by kernel_rfl)
  show wpList _ _ _ _ _ w3.drew
  go_wp2
  go_ret
  have lsn:=K.lt most ns SN pn w H.out.sn
  have lrn:=K.lt most ms RN rn w G.out.sn
  have lsp:=K.lt most _ SP' pp w2 HST.out
  have za:w.heap.size≤wq.drew.heap.size:=HFA.out.size
  have zb:=HFB.out.size
  have zz:wb.heap.size=w2.heap.size:=by rw [HWZ.out]
  have spd:=lt_of_block H.out.bd
  have hsp':∀ b,SP' b→¬ (SN b∨RN b):=fun b hb hh=>by
    rcases HSP.out b hb with h9 | h9
    · exact hh.elim (fun h=>H.out.dj b h9 h) (fun h=>(SEP.out b (.inr (.inl h9))).2.2.2 h)
    · exact hh.elim (fun h=>by have:=lsn b h; omega) (fun h=>by have:=lrn b h; omega)
  have hset:Fr (fun b=>b=pd) w3 (w3.drew.setCell ⟨pd,3,none⟩ (.float .f64 y2)):=((show Fr (fun b=>b=pd) w3 w3 from Fr.refl _ _).drew).setCell (p:=⟨pd,3,none⟩) (fun _=>rfl) _
  have hbd:(w3.drew.setCell ⟨pd,3,none⟩ (.float .f64 y2)).heap[pd]?=_:=heap_setCell_same w3.drew pd 3 _ _ _ HROW.out
  refine ⟨rfl,SP',SN',hbd.trans (by rw [← HY.out.2]; rfl),K.fr most _ SP' pp _ w3 _ (K.fr most _ SP' pp _ wb w3 (K.fr most _ SP' pp _ w2 wb HST.out HF2B.out (fun _ _ h=>h)) HF3.out hsp') hset (fun b hb e=>?_),K.fr most _ SN' pn _ w3 _ HSN.out hset (fun b hb e=>?_),
    ((HF2.out.trans HF2B.out (U:=fun b=>b=pd∨(SP b∨SN b)∨RP b∨RN b) (fun b _ h=>?_) (fun _ _ h=>h.elim)).trans HF3.out (fun _ _ h=>h) (fun b _ h=>?_)).trans hset (fun _ _ h=>h) (fun _ _ h=>.inl h),fun b hb=>?_,fun b hb=>?_,fun b hb hn=>?_⟩
  · subst e
    rcases HSP.out b hb with h9 | h9
    · exact (H.out.own b (.inl h9)).1 rfl
    · omega
  · subst e
    rcases HSL.out b hb with h9 | h9
    · exact (H.out.own b (.inr h9)).1 rfl
    · omega
  · rcases h with h | h
    · exact .inr (.inl (.inl h))
    · exact .inr (.inr (.inl h))
  · rcases h with h | h
    · exact .inr (.inl (.inr h))
    · exact .inr (.inr (.inr h))
  · rcases HSP.out b hb with h9 | h9
    · exact .inl h9
    · right; omega
  · rcases HSL.out b hb with h9 | h9
    · exact .inl h9
    · right; omega
  · rcases HSL.out b hn with h9 | h9
    · exact hsp' b hb (.inl h9)
    · have:=lsp b hb; omega
end
end Go.Proofs.YtllaekopaglolaaGreat
end
/-
  Two summaries made one: plainly,and the walk.
-/
section
namespace Go.Proofs.YtllaekopaglolaaGreat
open Go.RowKit
set_option exponentiation.threshold 5000
theorem zOO {s c x:Nat} {X E:Int} {M k:Rat} (h:KInv s c E M k) (hx:FV x X) (b1:-M≤qv X) (b2:qv X≤M) (n1:-M≤qv (E+X)) (n2:qv (E+X)≤M) (hk:k+1≤1000):∃ s' c',kahF s c x=some (s',c')∧KInv s' c' (E+X) M (k+3 / 5):=by
  obtain ⟨m0,m1,k0,k1,e1,e2,S,C,hs,hc,s1,s2,c1,c2⟩:=h
  have hkM:0≤k*M:=Rat.mul_nonneg k0 m0
  have hkM2:k*M≤1000*M:=Rat.mul_le_mul_of_nonneg_right k1 m0
  obtain ⟨t,T,ht,ft,t1,t2⟩:=zEj hx hc (2*M) (by grind) (by grind) (by grind)
  obtain ⟨v,V,hv,fv,v1,v2⟩:=zQ6 hs ft (5*M) (by grind) (by grind) (by grind)
  obtain ⟨d,D,hd,fd,d1,d2⟩:=zEj fv hs (3*M) (by grind) (by grind) (by grind)
  obtain ⟨c',C',hc',fc',c1',c2'⟩:=zEj fd ft M (by grind) (by grind) (by grind)
  refine ⟨v,c',?_,m0,m1,by grind,by grind,n1,n2,V,C',fv,fc',?_,?_,?_,?_⟩
  · unfold kahF
    rw [ht]; show (fadd s t).bind _=_
    rw [hv]; show (fsub v s).bind _=_
    rw [hd]; show (fsub d t).bind _=_
    rw [hc']; rfl
  · rw [zA8]; grind
  · rw [zA8]; grind
  · grind
  · grind
theorem KInv.scale {s c:Nat} {E:Int} {B k:Rat} (h:KInv s c E B k) (hB:4*B≤1099511627776):KInv s c E (4*B) (k / 4):=by
  obtain ⟨m0,m1,k0,k1,e1,e2,S,C,hs,hc,s1,s2,c1,c2⟩:=h
  exact ⟨by grind,hB,by grind,by grind,by grind,by grind,S,C,hs,hc,by grind,by grind,by grind,by grind⟩
theorem zSb {s c s2 c2:Nat} {E1 E2:Int} {B k1 k2 n:Rat} (h:KInv s c E1 B k1) (h2:KInv s2 c2 E2 B k2) (hB:4*B≤1099511627776) (hk1:1≤k1) (hk2:1≤k2) (hn:k1+k2≤n) (hn9:n≤900) (e1:-B≤qv (E1+E2)) (e2:qv (E1+E2)≤B) :
    ∃ a b s' c',kahF s c s2=some (a,b)∧kahF a b c2=some (s',c')∧KInv s' c' (E1+E2) (4*B) n:=by
  have H:=h.scale hB
  obtain ⟨m0,-,k20,-,v1,v2,S2,C2,f2,g2,s21,s22,c21,c22⟩:=h2
  have hB0:(k1+k2)*B≤n*B:=Rat.mul_le_mul_of_nonneg_right hn m0
  have hB1:1*B≤k1*B:=Rat.mul_le_mul_of_nonneg_right hk1 m0
  have hB2:1*B≤k2*B:=Rat.mul_le_mul_of_nonneg_right hk2 m0
  have hB3:n*B≤900*B:=Rat.mul_le_mul_of_nonneg_right hn9 m0
  have u1:=h.e1
  have u2:=h.e2
  rw [zA8] at e1 e2
  obtain ⟨a,b,h1,i1⟩:=zOO H f2 (by grind) (by grind) (by rw [zA8]; grind) (by rw [zA8]; grind) (by grind)
  obtain ⟨s',c',h3,i2⟩:=zOO i1 g2 (by grind) (by grind) (by rw [zA8,zA8]; grind) (by rw [zA8,zA8]; grind) (by grind)
  obtain ⟨-,-,-,-,-,-,S,C,hs,hc,s1,s3,c1,c3⟩:=i2
  rw [zA8,zA8] at s1 s3
  refine ⟨a,b,s',c',h1,h3,by grind,hB,by grind,by grind,by rw [zA8]; grind,by rw [zA8]; grind,S,C,hs,hc,?_,?_,c1,c3⟩
  · rw [zA8]; grind
  · rw [zA8]; grind
theorem zTP {s s2:Nat} {E1 E2:Int} {B k1 k2 n:Rat} (h:NInv s E1 B k1) (h2:NInv s2 E2 B k2) (hB:4*B≤1099511627776) (hk1:1≤k1) (hk2:1≤k2) (hn:k1+k2≤n) (hn9:n≤900) (e1:-B≤qv (E1+E2)) (e2:qv (E1+E2)≤B) :
    ∃ s',fadd s s2=some s'∧NInv s' (E1+E2) (4*B) n:=by
  obtain ⟨m0,-,k10,-,u1,u2,S,f1,s1,s3⟩:=h
  obtain ⟨-,-,k20,-,v1,v2,S2,f2,s21,s22⟩:=h2
  have hB0:(k1+k2)*B≤n*B:=Rat.mul_le_mul_of_nonneg_right hn m0
  have hB1:1*B≤k1*B:=Rat.mul_le_mul_of_nonneg_right hk1 m0
  have hB2:1*B≤k2*B:=Rat.mul_le_mul_of_nonneg_right hk2 m0
  have hB3:n*B≤900*B:=Rat.mul_le_mul_of_nonneg_right hn9 m0
  rw [zA8] at e1 e2
  obtain ⟨t,T,ht,ft,t1,t2⟩:=zQ6 f1 f2 (4*B) (by grind) (by grind) (by grind)
  refine ⟨t,ht,by grind,hB,by grind,by grind,by rw [zA8]; grind,by rw [zA8]; grind,T,ft,?_,?_⟩
  · rw [zA8]; grind
  · rw [zA8]; grind
theorem zQr {xs ys:Items} {lo hi lo2 hi2:Nat} (h:Ends xs lo hi) (h2:Ends ys lo2 hi2) (hx:xs≠[]) (hy:ys≠[]):Ends (xs++ys) (if flt lo2 lo=true then lo2 else lo) (if fgt hi2 hi=true then hi2 else hi):=by
  rcases h with ⟨h1,-⟩ | ⟨-,a,b,fa,fb,⟨q1,m1,e1⟩,l1,⟨q2,m2,e2⟩,l2⟩
  · exact absurd h1 hx
  rcases h2 with ⟨h1,-⟩ | ⟨-,c,d,fc,fd,⟨q3,m3,e3⟩,l3,⟨q4,m4,e4⟩,l4⟩
  · exact absurd h1 hy
  right
  refine ⟨by simp [hx],?_⟩
  rw [zBD fc fa,zBa fd fb]
  refine ⟨if c<a then c else a,if b<d then d else b,?_,?_,?_,?_,?_,?_⟩
  · by_cases c0:c<a
    · rw [if_pos c0,if_pos (by simpa using c0)]; exact fc
    · rw [if_neg c0,if_neg (by simpa using c0)]; exact fa
  · by_cases c0:b<d
    · rw [if_pos c0,if_pos (by simpa using c0)]; exact fd
    · rw [if_neg c0,if_neg (by simpa using c0)]; exact fb
  · by_cases c0:c<a
    · rw [if_pos c0]; exact ⟨q3,List.mem_append_right _ m3,e3⟩
    · rw [if_neg c0]; exact ⟨q1,List.mem_append_left _ m1,e1⟩
  · intro r hr
    rcases List.mem_append.1 hr with hr | hr
    · have:=l1 r hr; split <;> omega
    · have:=l3 r hr; split <;> omega
  · by_cases c0:b<d
    · rw [if_pos c0]; exact ⟨q4,List.mem_append_right _ m4,e4⟩
    · rw [if_neg c0]; exact ⟨q2,List.mem_append_left _ m2,e2⟩
  · intro r hr
    rcases List.mem_append.1 hr with hr | hr
    · have:=l2 r hr; split <;> omega
    · have:=l4 r hr; split <;> omega
theorem zER {xs:Items} (h:xs≠[]):(1:Rat)≤((xs.length:Nat):Rat):=by
  have:((1:Nat):Rat)≤((xs.length:Nat):Rat):=Rat.natCast_le_natCast.2 (List.length_pos_iff.2 h)
  exact this
theorem zKS {B:Rat} {xs ys:Items} {c s k l lo hi c2 s2 k2 l2 lo2 hi2:Nat} (h:zGX B xs c s k l lo hi) (h2:zGX B ys c2 s2 k2 l2 lo2 hi2) (hx:xs≠[]) (hy:ys≠[]) (hB:4*B≤1099511627776) (hA:qv (absI (xs++ys))≤B) (hn:xs.length+ys.length≤400) (ht:totC xs+totC ys<1000000) :
    ∃ c' a b s' k' l',fadd c c2=some c'∧kahF s k s2=some (a,b)∧kahF a b k2=some (s',k')∧fadd l l2=some l'∧zGX (4*B) (xs++ys) c' s' k' l' (if flt lo2 lo=true then lo2 else lo) (if fgt hi2 hi=true then hi2 else hi):=by
  obtain ⟨h1,h3,h4,h5⟩:=h
  obtain ⟨g1,g3,g4,g5⟩:=h2
  have hle:=zKR (xs++ys)
  have es:sumI (xs++ys)=sumI xs+sumI ys:=zEi xs ys
  have el:(((xs++ys).length:Nat):Rat)=((xs.length:Nat):Rat)+((ys.length:Nat):Rat):=by rw [List.length_append]; exact Rat.natCast_add _ _
  have n1:-B≤qv (sumI xs+sumI ys):=by
    rw [← es]
    have h1:=zA9 hle.1
    rw [zCr] at h1; grind
  have n2:qv (sumI xs+sumI ys)≤B:=by
    rw [← es]
    have h1:=zA9 hle.2
    grind
  have hk:(((xs++ys).length:Nat):Rat)≤900:=by
    have:(((xs++ys).length:Nat):Rat)≤((900:Nat):Rat):=Rat.natCast_le_natCast.2 (by rw [List.length_append]; omega)
    exact this
  have hnn:((xs.length:Nat):Rat)+((ys.length:Nat):Rat)≤(((xs++ys).length:Nat):Rat):=by rw [el]; exact Rat.le_refl
  obtain ⟨a,b,s',k',u1,u2,u3⟩:=zSb h3 g3 hB (zER hx) (zER hy) hnn hk n1 n2
  obtain ⟨l',v1,v2⟩:=zTP h4 g4 hB (zER hx) (zER hy) hnn hk n1 n2
  refine ⟨nf (totC xs+totC ys),a,b,s',k',l',by rw [h1,g1]; exact zAz _ _ (by omega),u1,u2,v1,?_,?_,?_,zQr h5 g5 hx hy⟩
  · rw [zBc]
  · rw [es]; exact u3
  · rw [es]; exact v2
set_option maxRecDepth 100000 in
set_option maxHeartbeats 1600000 in
theorem zIm (p r c s k l mn mx c2 s2 k2 l2 mn2 mx2 c' a b s' k' l':Nat) (w:World) (h:St6 w p c s k l mn mx) (g:St6 w r c2 s2 k2 l2 mn2 mx2) (n12:p≠r) (hc:fadd c c2=some c') (h1:kahF s k s2=some (a,b)) (h2:kahF a b k2=some (s',k')) (hl:fadd l l2=some l') :
    Calls Tryz.prog 41 #[.pointer (some ⟨p,0,none⟩),.pointer (some ⟨r,0,none⟩)] w fun e w'=>e = .returned (.tuple #[])∧St6 w' p c' s' k' l' (if flt mn2 mn=true then mn2 else mn) (if fgt mx2 mx=true then mx2 else mx)∧Fr (fun b=>b=p) w w':=by
  have n21:r≠p:=fun e=>n12 e.symm
  have q0:=fun w:World=>run_float_arith (P:=Tryz.prog) w .add 29 .f64 c c2 c' hc
  have q1:=fun w:World=>run_float_arith (P:=Tryz.prog) w .add 29 .f64 l l2 l' hl
  have hf0:Fr (fun b=>b=p) w (w.setCell ⟨p,0,none⟩ (.float .f64 c')).drew:=((show Fr (fun b=>b=p) w w from Fr.refl _ _).setCell (p:=⟨p,0,none⟩) (fun _=>rfl) _).drew
  have HK1:=zM6 p c' s k l mn mx s2 a b _ (h.set0 (x:=c')).drew h1
  have HK2:=fun w h=>zM6 p c' a b l mn mx k2 s' k' w h h2
  have g0:St6 (w.setCell ⟨p,0,none⟩ (.float .f64 c')).drew r c2 s2 k2 l2 mn2 mx2:=hf0.heap g n21
  obtain ⟨d0,-⟩:=h.cells
  obtain ⟨o0,o1,-⟩:=g.cells
  obtain ⟨b1,t1⟩:∃ b,flt mn2 mn=b:=⟨_,rfl⟩
  obtain ⟨b2,t2⟩:∃ b,fgt mx2 mx=b:=⟨_,rfl⟩
  rw [t1,t2]
  have ka:(FloatKind.f64.format.order mn2 mn == some .lt)=b1:=t1
  have kb:(FloatKind.f64.format.order mx2 mx == some .gt)=b2:=t2
  have f0:=h.free 0
  have HF0:=Lib.hid hf0
  have HG0:=Lib.hid g0
  clear h g hc h1 h2 hl t1 t2 hf0 g0
  cases b1 <;> cases b2 <;> (
    go_enter Tryz.func41,Tryz.ntmps41
    go_wp2
    go_still_tail 11,(by kernel_rfl)
    show wpList _ _ _ _ _ w.drew
    go_wp2_with (first | (go_at_call 64; (with_reducible refine HK1.mono ?_); rintro e w1 ⟨rfl,a1,hf1⟩; have G1:=hf1.heap HG0.out n21; obtain ⟨-,-,o2,-⟩:=St6.cells G1; have HK:=HK2 w1 a1; have HG1:=Lib.hid G1; have HF1:=Lib.hid (HF0.out.trans hf1 (fun _ _ h=>h) (fun _ _ h=>h)); clear a1 hf1 G1 HK1 HK2 HG0 HF0) | (go_at_call 64; (with_reducible refine HK.mono ?_); rintro e w2 ⟨rfl,g2,hf2⟩; obtain ⟨-,-,-,o3,o4,o5⟩:=St6.cells (hf2.heap HG1.out n21); obtain ⟨-,-,-,d3,d4,d5⟩:=g2.cells; have f3:=g2.free 3; have f4:=g2.free 4; have f5:=g2.free 5; have H:=Lib.hid (g2.set3 (x:=l')); have HF2:=Lib.hid ((HF1.out.trans hf2 (fun _ _ h=>h) (fun _ _ h=>h)).setCell (p:=⟨p,3,none⟩) (fun _=>rfl) (.float .f64 l')); clear g2 hf2 HK HG1 HF1))
    go_still_tail 11,(by kernel_rfl)
    show wpList _ _ _ _ _ w2.drew
    go_wp2
    go_quiet (fail)
    go_wp2
    go_quiet (fail)
    go_wp2
    go_end0
    first
      | (with_reducible exact ⟨rfl,H.out.drewN _,HF2.out.drewN _⟩)
      | (with_reducible exact ⟨rfl,((H.out.drewN _).set4).drewN _,((HF2.out.drewN _).setCell (p:=⟨p,4,none⟩) (fun _=>rfl) _).drewN _⟩)
      | (with_reducible exact ⟨rfl,(H.out.drewN _).set5,(HF2.out.drewN _).setCell (p:=⟨p,5,none⟩) (fun _=>rfl) _⟩)
      | (with_reducible exact ⟨rfl,((H.out.drewN _).set4.drewN _).set5,(((HF2.out.drewN _).setCell (p:=⟨p,4,none⟩) (fun _=>rfl) _).drewN _).setCell (p:=⟨p,5,none⟩) (fun _=>rfl) _⟩))
end Go.Proofs.YtllaekopaglolaaGreat
end
/-
  A sketch into which another one is merged,with the summaries.
-/
section
namespace Go.Proofs.YtllaekopaglolaaGreat
open Go.RowKit
def zVI {kind:Int} (K:zAD kind) (tP t:TypeId) (idx:Nat→Option Int) (most:Int) (g off mult mn mx:Nat) (B:Rat) (xs:Items) (SP SN RP RN:Nat→Prop) (pe pd pt pm pp pn:Nat) (w:World) (e:Ending) (w':World):Prop :=
  e = .returned .nilIface∧∃ SP' SN',Holds K tP t idx most g off mult mn mx B xs SP' SN' pe pd pt pm pp pn w'∧Fr (fun b=>b=pd∨b=pt∨(SP b∨SN b)∨RP b∨RN b) w w'∧(∀ b,SP' b→SP b∨w.heap.size≤b)∧∀ b,SN' b→SN b∨w.heap.size≤b
section
variable {kind mk:Int} {K:zAD kind} {of_:Nat→Option (Nat × Nat × Nat × Nat × Nat)} {acc:Nat→Option Nat} {idx:Nat→Nat→Nat→Option Int} {lower:Nat→Nat→Int→Option Nat} {value:Nat→Nat→Nat→Int→Option Nat} {M:zBK mk of_ acc idx lower value}
set_option maxRecDepth 100000 in
set_option maxHeartbeats 1000000 in
theorem zNO (V:zDq K) (E:zGS M) {most:Int} {g off mult mn mx pe pd pt pm pp pn re rd rt rm rp rn N:Nat} {B:Rat} {xs ys:Items} {SP SN RP RN:Nat→Prop} {w:World}
   (h:Holds K M.tP M.t (idx off mult) most g off mult mn mx B xs SP SN pe pd pt pm pp pn w) (h2:Holds K M.tP M.t (idx off mult) most g off mult mn mx B ys RP RN re rd rt rm rp rn w)
   (lt:∀ b,(b=pe∨b=pd∨b=pt∨b=pm∨SP b∨SN b)→b<N) (ge:From RP RN re rd rt rm N) (hk:zBg kind most=true) (hi2:zC4 (idx off mult)) (hg:zAa g=true) (ho:zAa off=true)
   (hx:∀ q∈xs,zAU q) (hy:∀ q∈ys,zAU q) (x0:xs≠[]) (y0:ys≠[]) (hl:xs.length+ys.length≤400) (hB:4*B≤1099511627776) (hA:qv (absI (xs++ys))≤B) :
    Calls Tryz.prog 23 #[.pointer (some ⟨pe,0,none⟩),.pointer (some ⟨re,0,none⟩)] w fun e w' =>
      zVI K M.tP M.t (idx off mult) most g off mult mn mx (4*B) (xs++ys) SP SN RP RN pe pd pt pm pp pn w e w':=by
  obtain ⟨c,s,k,l,lo,hi,hs,hv⟩:=h
  obtain ⟨c2,s2,k2,l2,lo2,hi2',hs2,hv2⟩:=h2
  have tx:=zDa hx
  have ty:=zDa hy
  obtain ⟨c',a,b,s',k',l',a1,a2,a3,a4,a5⟩:=zKS hv hv2 x0 y0 hB hA hl (by omega)
  obtain ⟨p1,p2,p3,p4⟩:=zCj hi2 hx
  obtain ⟨n1,n2,n3,n4⟩:=zDO hi2 hx
  obtain ⟨q1,q2,q3,q4⟩:=zCj hi2 hy
  obtain ⟨m1,m2,m3,m4⟩:=zDO hi2 hy
  have zx:=zGY xs
  have zy:=zGY ys
  obtain ⟨ge1,ge2,ge3,ge4,ge5,ge6⟩:=id ge
  have HD:=zNS V E most g off mult mn mx (zAd xs) (zAd ys) pd pm pp pn rd rm rp rn _ _ _ _ SP SN RP RN w.drew hs.ddm.drew hs2.ddm.drew
    (fun b hb=>by
      have hb2:b<N:=lt b (by rcases hb with h | h | h <;> simp [h])
      exact ⟨by omega,by omega,fun h=>by have:=ge5 b h; omega,fun h=>by have:=ge6 b h; omega⟩) hg ho (by omega)
    ⟨hk,p1,p2,by omega,by omega⟩ ⟨hk,n1,n2,by omega,by omega⟩ ⟨hk,q1,q2,by omega,by omega⟩ ⟨hk,m1,m2,by omega,by omega⟩ (by omega) (by omega) (by omega) (by omega)
  rw [← zEc,← zEd,← zC5] at HD
  have e0:=cell_of_row _ _ 0 _ _ _ hs.be
  have e1:=cell_of_row _ _ 1 _ _ _ hs.be
  have o0:=cell_of_row _ _ 0 _ _ _ hs2.be
  have o1:=cell_of_row _ _ 1 _ _ _ hs2.be
  have HS:=Lib.hid hs
  have HS2:=Lib.hid hs2
  have H5:=Lib.hid a5
  have npr:pt≠rt:=fun e=>by have:=lt pt (by simp); omega
  have HST:=fun w1 h6 h7=>zIm pt rt c s k l lo hi c2 s2 k2 l2 lo2 hi2' c' a b s' k' l' w1 h6 h7 npr a1 a2 a3 a4
  have nt:pt≠pd:=fun e=>by have h1:=hs.bt; rw [e] at h1; have h2:=hs.bd; rw [show w.heap[pd]?=_ from h1] at h2; cases h2
  have net:pt≠pe:=fun e=>by have h1:=hs.bt; rw [e] at h1; have h2:=hs.be; rw [show w.heap[pe]?=_ from h1] at h2; cases h2
  have ned:pe≠pd:=fun e=>by have h1:=hs.be; rw [e] at h1; have h2:=hs.bd; rw [h1] at h2; cases h2
  have hnot:∀ b,b<N→b≠pd→¬ SP b→¬ SN b→¬ (b=pd∨(SP b∨SN b)∨RP b∨RN b):=fun b hb h1 h2 h3 h=>by
    rcases h with h | (h | h) | h | h
    · exact h1 h
    · exact h2 h
    · exact h3 h
    · have:=ge5 b h; omega
    · have:=ge6 b h; omega
  have hown:=hs.own
  have hpe:=hnot pe (lt pe (by simp)) ned (fun h=>(hown pe (.inl h)).1 rfl) (fun h=>(hown pe (.inr h)).1 rfl)
  have hpt:=hnot pt (lt pt (by simp)) nt (fun h=>(hown pt (.inl h)).2.2.1 rfl) (fun h=>(hown pt (.inr h)).2.2.1 rfl)
  have hpm:=hnot pm (lt pm (by simp)) hs.nm.2.1 (fun h=>(hown pm (.inl h)).2.2.2 rfl) (fun h=>(hown pm (.inr h)).2.2.2 rfl)
  have hsown:=hs2.own
  have ot:rt≠rd:=fun e=>by have h1:=hs2.bt; rw [e] at h1; have h2:=hs2.bd; rw [show w.heap[rd]?=_ from h1] at h2; cases h2
  have oed:re≠rd:=fun e=>by have h1:=hs2.be; rw [e] at h1; have h2:=hs2.bd; rw [h1] at h2; cases h2
  have hnot2:∀ b,N≤b→¬ RP b→¬ RN b→¬ (b=pd∨(SP b∨SN b)∨RP b∨RN b):=fun b hb h2 h3 h=>by
    rcases h with h | (h | h) | h | h
    · have:=lt b (.inr (.inl h)); omega
    · have:=lt b (by simp [h]); omega
    · have:=lt b (by simp [h]); omega
    · exact h2 h
    · exact h3 h
  have hre:=hnot2 re ge1 (fun h=>(hsown re (.inl h)).1 rfl) (fun h=>(hsown re (.inr h)).1 rfl)
  have hrt:=hnot2 rt ge3 (fun h=>(hsown rt (.inl h)).2.2.1 rfl) (fun h=>(hsown rt (.inr h)).2.2.1 rfl)
  have NE:=Lib.hid (And.intro nt (And.intro net ned))
  have HNP:=Lib.hid (And.intro hpe (And.intro hpt (And.intro hpm (And.intro hre hrt))))
  clear hs hs2 hv hv2 a1 a2 a3 a4 a5 hk hi2 hx hy x0 y0 hl hB hA tx ty p1 p2 p3 p4 n1 n2 n3 n4 q1 q2 q3 q4 m1 m2 m3 m4 zx zy ge1 ge2 ge3 ge4 ge5 ge6 nt net ned hpe hpt hpm hre hrt hnot hnot2 hown hsown ot oed hg ho lt ge npr
  go_enter Tryz.func23,Tryz.ntmps23
  go_wp2
  go_still_tail 8,(by kernel_rfl)
  show wpList _ _ _ _ _ w.drew
  go_wp2_with (go_at_call 40; (with_reducible refine HD.mono ?_); rintro e w1 ⟨rfl,SP',SN',b1,b2,b3,b4,b5,b6,b7⟩; have B1:=Lib.hid b1; have B2:=Lib.hid b2; have B3:=Lib.hid b3; have B4:=Lib.hid b4; have B5:=Lib.hid b5; have B6:=Lib.hid b6; have B7:=Lib.hid b7; clear b1 b2 b3 b4 b5 b6 b7 HD)
  have e1':=B4.out.cell (show w.drew.cell? _=_ from e1) HNP.out.1
  have o1':=B4.out.cell (show w.drew.cell? _=_ from o1) HNP.out.2.2.2.1
  have t1:St6 w1 pt c s k l lo hi:=B4.out.heap HS.out.bt HNP.out.2.1
  have t2:St6 w1 rt c2 s2 k2 l2 lo2 hi2':=B4.out.heap HS2.out.bt HNP.out.2.2.2.2
  have HT:=HST w1.drew t1.drew t2.drew
  have HBE:=Lib.hid (B4.out.heap HS.out.be HNP.out.1)
  have HBM:Hid (Map5 M.t w1 pm g off mult mn mx):=B4.out.heap HS.out.bm HNP.out.2.2.1
  have HFD:Hid (Fr (fun _=>False) w1 w1.drew):=(Fr.refl _ w1).drew
  clear t1 t2 HST e0 e1 o0 o1
  go_still_tail 8,(by kernel_rfl)
  show wpList _ _ _ _ _ w1.drew
  go_wp2_with (go_at_call 41; (with_reducible refine HT.mono ?_); rintro e w2 ⟨rfl,g6,gf⟩; have G6:=Lib.hid g6; have GF:=Lib.hid (HFD.out.trans gf (U:=fun b=>b=pt) (fun _ _ h=>h.elim) (fun _ _ h=>h)); clear g6 gf HT)
  go_ret
  have lpe:=lt_of_block HS.out.be
  have lpd:=lt_of_block HS.out.bd
  have lpt:=lt_of_block HS.out.bt
  have lpm:=lt_of_block HS.out.bm
  have ownS:∀ b,SP' b∨SN' b→b≠pe∧b≠pd∧b≠pt∧b≠pm:=fun b hb=>by
    have h9:(SP b∨SN b)∨w.heap.size≤b:=hb.elim (fun h=>(B5.out b h).elim (fun h=>.inl (.inl h)) .inr) (fun h=>(B6.out b h).elim (fun h=>.inl (.inr h)) .inr)
    rcases h9 with h9 | h9
    · exact HS.out.own b h9
    · omega
  refine ⟨rfl,SP',SN',⟨c',s',k',l',_,_,⟨GF.out.heap HBE.out (Ne.symm NE.out.2.1),GF.out.heap B1.out (Ne.symm NE.out.1),G6.out,GF.out.heap HBM.out (fun h=>HS.out.nm.2.2 h),K.fr most _ SP' pp _ w1 w2 B2.out GF.out (fun b hb h=>(ownS b (.inl hb)).2.2.1 h),K.fr most _ SN' pn _ w1 w2 B3.out GF.out (fun b hb h=>(ownS b (.inr hb)).2.2.1 h),B7.out,ownS,HS.out.nm⟩,H5.out⟩,(((Fr.refl (fun _=>False) w).drew).trans B4.out (U:=fun b=>b=pd∨b=pt∨(SP b∨SN b)∨RP b∨RN b) (fun _ _ h=>h.elim) (fun b _ h=>?_)).trans GF.out (fun _ _ h=>h) (fun b _ h=>.inr (.inl h)),B5.out,B6.out⟩
  rcases h with h | h
  · exact .inl h
  · exact .inr (.inr h)
end
end Go.Proofs.YtllaekopaglolaaGreat
end
