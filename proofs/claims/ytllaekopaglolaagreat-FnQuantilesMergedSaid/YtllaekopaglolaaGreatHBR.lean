/-
  A store into which bins are merged one by one.
-/
import Derived.Test.YtllaekopaglolaaGreatHBQ
import Derived.Deep.QuietTactic
import Derived.BigQuiet
import Derived.Test.YtllaekopaglolaaGreatHBC
section
namespace Go.Proofs.YtllaekopaglolaaGreat
open Go.RowKit
theorem zBd {P:Program} (t xT e:TypeId) (v:Value) (hu:P.underlying t=some (.pointer e)) (w:World):(Instr.typeAssert (.iface t v) xT t true).run P w = .ok (.tuple #[v,.bool true]) w:=by
  simp [Instr.typeAssert,run_underlying hu]
def MJ {kind:Int} (K:zAD kind) (most:Int) (xs:Bins) (p bx:Nat) (PT:TypeId) (done:Bins) (T:Nat→Prop) (w:World):Prop :=
  ∃ S,K.St most (xs++done) S p w∧w.heap[bx]?=some (.cells #[.pointer (some ⟨p,0,none⟩)] PT (0,0))∧¬ S bx∧∀ b,T b↔S b∨b=bx
structure zRD (kind most:Int) (xs ks:Bins):Prop where
  known:zBg kind most=true
  inR:InR xs
  pos:Pos xs
  inR2:InR ks
  pos2:Pos ks
  tot:tot xs+tot ks<1000000000
  len:xs.length+ks.length<1000
theorem zOw {a b:Bins} (h:a <+: b):tot a≤tot b:=by
  obtain ⟨c,rfl⟩:=h; rw [zBB]; omega
theorem zUN {kind:Int} {K:zAD kind} {most:Int} {xs ks:Bins} {p bx:Nat} {PT:TypeId} {F:FuncId} (hf:zRD kind most xs ks) (hE:∀ args w,(callFunc F args).run Tryz.prog w = .ok (.enter F args) w)
   (hcb:∀ x c w (Q:Ending→World→Prop),w.cell? ⟨bx,0,none⟩=some (.pointer (some ⟨p,0,none⟩))→(Calls Tryz.prog K.fAdd #[.pointer (some ⟨p,0,none⟩),.int .i64 x,.float .f64 (nf c)] w fun e w'=>e = .returned (.tuple #[])∧Q e w') →
      Calls Tryz.prog F #[.int .i64 x,.float .f64 (nf c),.pointer (some ⟨bx,0,none⟩)] w fun e w'=>e = .returned (.bool false)∧Q (.returned (.tuple #[])) w'):zJF F bx ks (MJ K most xs p bx PT) where
  enter:=hE
  call:=fun done x c T w hj hpre=>by
    obtain ⟨S,h1,h2,h3,h4⟩:=hj
    have hmem:∀ q∈done++[(x,c)],q∈ks:=fun q hq=>hpre.subset hq
    have hd:∀ q∈done,q∈ks:=fun q hq=>hmem q (List.mem_append_left _ hq)
    have hx:=hf.inR2 (x,c) (hmem _ (List.mem_append_right _ (List.mem_singleton.2 rfl)))
    have hc:=hf.pos2 (x,c) (hmem _ (List.mem_append_right _ (List.mem_singleton.2 rfl)))
    have htp:=zOw hpre
    rw [zC6] at htp
    have hlen:=hpre.length_le
    rw [List.length_append,List.length_singleton] at hlen
    have hA:=K.add most (xs++done) S p x c w hf.known h1 (fun q hq=>(List.mem_append.1 hq).elim (hf.inR q) (fun h=>hf.inR2 q (hd q h))) (fun q hq=>(List.mem_append.1 hq).elim (hf.pos q) (fun h=>hf.pos2 q (hd q h))) (by rw [zBB]; have:=hf.tot; omega) (by rw [List.length_append]; have:=hf.len; omega) hx.1 hx.2 hc
    refine (hcb x c w _ (cell_of_one h2) hA).mono ?_
    rintro e w' ⟨rfl,S',g1,g2,g3⟩
    have hbl:=lt_of_block h2
    refine ⟨rfl,fun b=>S' b∨b=bx,⟨S',by rw [← List.append_assoc]; exact g1,g2.heap h2 h3,fun h=>(g3 bx h).elim h3 (fun h=>by omega),fun b=>Iff.rfl⟩,g2.mono (fun b _ hb=>(h4 b).2 (.inl hb)),fun b hb=>?_⟩
    rcases hb with hb | hb
    · exact (g3 b hb).imp (fun h=>(h4 b).2 (.inl h)) id
    · exact .inl ((h4 b).2 (.inr hb))
  fr:=fun done T w w' U hj hfr hn=>by
    obtain ⟨S,h1,h2,h3,h4⟩:=hj
    exact ⟨S,K.fr most _ S p U w w' h1 hfr (fun k hk=>hn k ((h4 k).2 (.inl hk))),hfr.heap h2 (hn bx ((h4 bx).2 (.inr rfl))),h3,h4⟩
  lt:=fun done T w hj b hb=>by
    obtain ⟨S,h1,h2,h3,h4⟩:=hj
    rcases (h4 b).1 hb with h | h
    · exact K.lt most _ S p w h1 b h
    · rw [h]; exact lt_of_block h2
def zCi {kind other:Int} (K:zAD kind) (O:zAD other) (most om:Int) (xs ys:Bins) (S R:Nat→Prop) (p r:Nat) (w:World) (e:Ending) (w':World):Prop :=
  e = .returned (.tuple #[])∧O.St om ys R r w'∧∃ S',K.St most (xs++zBz other om ys) S' p w'∧Fr (fun b=>S b∨R b) w w'∧(∀ b,S' b→S b∨w.heap.size≤b)
theorem zIl {kind other:Int} {K:zAD kind} {O:zAD other} {most om:Int} {xs ys:Bins} {S R:Nat→Prop} {p r:Nat} {PT:TypeId} {w w1 w2 w':World} {e:Ending} (hw:w1=w.alloc (.cells #[.pointer (some ⟨p,0,none⟩)] PT)) (hw2:Fr R w1 w2)
   (h:zTe O om ys R r (MJ K most xs p w.heap.size PT) (fun b=>S b∨b=w.heap.size) w2 e w'):zCi K O most om xs ys S R p r w e w':=by
  obtain ⟨rfl,h1,T',⟨S',h2,h3,h4,h5⟩,h6,h7⟩:=h
  have hs:w1.heap.size=w.heap.size+1:=by rw [hw]; simp
  have h0:Fr R w w2:=(show Fr (fun _=>False) w w1 from by rw [hw]; exact (Fr.refl _ w).alloc _).trans hw2 (fun _ _ h=>h.elim) (fun _ _ h=>h)
  have hs2:=h0.size
  refine ⟨rfl,h1,S',h2,h0.trans h6 (fun _ _ h=>.inr h) (fun i hi h=>?_),fun b hb=>?_⟩
  · rcases h with h | h | h
    · exact .inr h
    · exact .inl h
    · omega
  · rcases h7 b ((h5 b).2 (.inl hb)) with h | h
    · rcases h with h | h
      · exact .inl h
      · right; omega
    · right; omega
theorem MJ.start {kind:Int} {K:zAD kind} {most:Int} {xs:Bins} {S R:Nat→Prop} {p:Nat} {PT:TypeId} {w w1 w2:World} (hw:w1=w.alloc (.cells #[.pointer (some ⟨p,0,none⟩)] PT)) (hw2:Fr R w1 w2) (h:K.St most xs S p w) (hd:∀ b,S b→¬ R b) (hR:∀ b,R b→b<w.heap.size) :
    MJ K most xs p w.heap.size PT [] (fun b=>S b∨b=w.heap.size) w2:=by
  have h0:Fr R w w2:=(show Fr (fun _=>False) w w1 from by rw [hw]; exact (Fr.refl _ w).alloc _).trans hw2 (fun _ _ h=>h.elim) (fun _ _ h=>h)
  refine ⟨S,by rw [List.append_nil]; exact K.fr most xs S p R w w2 h h0 hd,hw2.heap (by rw [hw]; exact heap_alloc_new w _) (fun h=>Nat.lt_irrefl _ (hR _ h)),fun h2=>Nat.lt_irrefl _ (K.lt most xs S p w h _ h2),fun b=>Iff.rfl⟩
theorem zKq {kind other:Int} {K:zAD kind} {O:zAD other} {most om:Int} {xs ys:Bins} {S R:Nat→Prop} {p r:Nat} {PT:TypeId} {w w1 w2:World} (hw:w1=w.alloc (.cells #[.pointer (some ⟨p,0,none⟩)] PT)) (hw2:Fr R w1 w2) (ho:O.St om ys R r w2) (h:K.St most xs S p w) (hd:∀ b,S b→¬ R b) (hy:ys=[]) :
    zCi K O most om xs ys S R p r w (.returned (.tuple #[])) w2:=by
  have h0:Fr R w w2:=(show Fr (fun _=>False) w w1 from by rw [hw]; exact (Fr.refl _ w).alloc _).trans hw2 (fun _ _ h=>h.elim) (fun _ _ h=>h)
  refine ⟨rfl,ho,S,?_,h0.mono (fun _ _ h=>.inr h),fun b hb=>.inl hb⟩
  rw [hy,zOM,List.append_nil]
  exact K.fr most xs S p R w w2 h h0 hd
end Go.Proofs.YtllaekopaglolaaGreat
end
/-
  MergeWith by ForEach,for each kind of target. (Printed by gen_merge0.py.)
-/
section
namespace Go.Proofs.YtllaekopaglolaaGreat
open Go.RowKit
set_option maxRecDepth 100000 in
theorem zUO (p bx:Nat) (x:Int) (c:Nat) (w:World) (Q:Ending→World→Prop) (h:w.cell? ⟨bx,0,none⟩=some (.pointer (some ⟨p,0,none⟩)))
   (hA:Calls Tryz.prog 194 #[.pointer (some ⟨p,0,none⟩),.int .i64 x,.float .f64 (nf c)] w fun e w'=>e = .returned (.tuple #[])∧Q e w') :
    Calls Tryz.prog 210 #[.int .i64 x,.float .f64 (nf c),.pointer (some ⟨bx,0,none⟩)] w fun e w'=>e = .returned (.bool false)∧Q (.returned (.tuple #[])) w':=by
  obtain ⟨y,hy⟩:∃ y,y=nf c:=⟨_,rfl⟩
  rw [← hy] at hA ⊢
  clear hy
  go_enter Tryz.func210,Tryz.ntmps210
  go_wp2_with (go_at_call 194; (with_reducible refine hA.mono ?_); rintro e w1 ⟨rfl,hq⟩; have HQ:=Lib.hid hq; clear hq hA h)
  go_ret
  exact ⟨rfl,HQ.out⟩
set_option maxRecDepth 100000 in
set_option maxHeartbeats 400000 in
theorem zKu {other:Int} {O:zAD other} (E:zOo O) (most om:Int) (xs ys:Bins) (S R:Nat→Prop) (p r:Nat) (w:World) (h:(zHM).St most xs S p w) (ho:O.St om ys R r w) (hd:∀ b,S b→¬ R b) (hfo:Few other om ys) (hf:zRD 1 most xs (zBz other om ys)) :
    Calls Tryz.prog 204 #[.pointer (some ⟨p,0,none⟩),.iface O.T (.pointer (some ⟨r,0,none⟩))] w fun e w'=>zCi zHM O most om xs ys S R p r w e w':=by
  have hmf:∀ (fn:Fn) (first cap:Array Value) (w:World),(Instr.makeFunc fn first cap).run Tryz.prog w = .ok (.func fn first cap) w:=fun _ _ _ _=>rfl
  obtain ⟨w1,hw1⟩:∃ w1,w1=w.alloc (.cells #[.pointer (some ⟨p,0,none⟩)] 95):=⟨_,rfl⟩
  have hf01:Fr (fun _=>False) w w1:=by rw [hw1]; exact (Fr.refl _ w).alloc _
  have hbx:w1.heap[w.heap.size]?=some (.cells #[.pointer (some ⟨p,0,none⟩)] 95 (0,0)):=by rw [hw1]; exact heap_alloc_new w _
  have hRlt:=O.lt om ys R r w ho
  have hSlt:=(zHM).lt most xs S p w h
  have ho1:=O.fr om ys R r _ w w1 ho hf01 (fun _ _ h=>h)
  have h1:=(zHM).fr most xs S p _ w w1 h hf01 (fun _ _ h=>h)
  have hC:=zUN (K:=zHM) (p:=p) (bx:=w.heap.size) (PT:=95) hf (enters_of Tryz.func210 (by kernel_rfl) rfl) (fun x c w' Q h hA=>zUO p w.heap.size x c w' Q h hA)
  have hEe:=E.cE om ys R r 210 w.heap.size (MJ zHM most xs p w.heap.size 95) (fun b=>S b∨b=w.heap.size)
  have hdT:∀ b,(S b∨b=w.heap.size)→¬ R b:=fun b hb hr=>hb.elim (fun h=>hd b h hr) (fun h=>by have:=hRlt b hr; omega)
  have HEE:=Lib.hid (fun w2 (hw2:Fr R w1 w2) (hst:O.St om ys R r w2)=>hEe w2 hst hfo hC (MJ.start hw1 hw2 h hd hRlt) hdT)
  have HME:=Lib.hid (fun w2 e w' (hw2:Fr R w1 w2) hh=>@zIl _ _ zHM O most om xs ys S R p r 95 w w1 w2 w' e hw1 hw2 hh)
  have HW1:=Lib.hid hw1
  have HO1:=Lib.hid ho1
  have HH:=Lib.hid h
  have HD:=Lib.hid hd
  have HBX:=Lib.hid hbx
  have hME:=E.mE r
  have hEE:=E.eE
  clear hw1 hf01 hbx hRlt hSlt ho1 h1 hC hEe hdT h ho hd hf hfo
  have HX:=HEE.out w1 (Fr.refl _ _) HO1.out
  rw [HW1.out] at HX
  have HXX:=Lib.hid HX
  clear HX
  go_enter Tryz.func204,Tryz.ntmps204
  go_wp2_with (go_at_fn E.fE; (with_reducible refine HXX.out.mono ?_); intro e w3 hx; have HXY:=Lib.hid hx; obtain ⟨rfl,-⟩:=hx; clear HXX hME hEE)
  go_end0
  exact HME.out w1 _ _ (Fr.refl _ _) (by rw [HW1.out]; exact HXY.out)
end Go.Proofs.YtllaekopaglolaaGreat
end
/-
  MergeWith of a store that is empty,for the kinds that ask for it.
-/
section
namespace Go.Proofs.YtllaekopaglolaaGreat
open Go.RowKit
set_option maxRecDepth 100000 in
set_option maxHeartbeats 400000 in
theorem zKt {other:Int} {O:zAD other} (D:zCJ O) (most om:Int) (xs ys:Bins) (S R:Nat→Prop) (p r:Nat) (w:World) (h:(zGV).St most xs S p w) (ho:O.St om ys R r w) (hd:∀ b,S b→¬ R b) (hfo:Few other om ys) (hy:ys=[]) :
    Calls Tryz.prog 178 #[.pointer (some ⟨p,0,none⟩),.iface O.T (.pointer (some ⟨r,0,none⟩))] w fun e w'=>zCi zGV O most om xs ys S R p r w e w':=by
  have hmf:∀ (fn:Fn) (first cap:Array Value) (w:World),(Instr.makeFunc fn first cap).run Tryz.prog w = .ok (.func fn first cap) w:=fun _ _ _ _=>rfl
  obtain ⟨w1,hw1⟩:∃ w1,w1=w.alloc (.cells #[.pointer (some ⟨p,0,none⟩)] 93):=⟨_,rfl⟩
  have hf01:Fr (fun _=>False) w w1:=by rw [hw1]; exact (Fr.refl _ w).alloc _
  have hbx:w1.heap[w.heap.size]?=some (.cells #[.pointer (some ⟨p,0,none⟩)] 93 (0,0)):=by rw [hw1]; exact heap_alloc_new w _
  have hRlt:=O.lt om ys R r w ho
  have hSlt:=(zGV).lt most xs S p w h
  have ho1:=O.fr om ys R r _ w w1 ho hf01 (fun _ _ h=>h)
  have h1:=(zGV).fr most xs S p _ w w1 h hf01 (fun _ _ h=>h)
  have HW1:=Lib.hid hw1
  have HO1:=Lib.hid ho1
  have HH:=Lib.hid h
  have HD:=Lib.hid hd
  have HBX:=Lib.hid hbx
  have hEm:=D.cEmp om ys R r w1 ho1 hfo
  rw [hw1] at hEm
  have HEM:=Lib.hid hEm
  have hMM:=D.mEmp r
  have hMEm:=D.eEmp
  clear hw1 hf01 hbx hRlt hSlt ho1 h1 h ho hd hfo hEm
  have hye:ys.isEmpty=true:=by rw [hy]; rfl
  have HY:=Lib.hid hy
  rw [hye] at HEM
  clear hy hye
  go_enter Tryz.func178,Tryz.ntmps178
  go_wp2_with (go_at_fn D.fEmp; (with_reducible refine HEM.out.mono ?_); rintro e w2 ⟨rfl,hst2,hf2⟩; have HST2:=Lib.hid hst2; have HF2:=Lib.hid hf2; clear hst2 hf2 HEM hMM hMEm)
  go_end0
  exact zKq HW1.out (by rw [HW1.out]; exact HF2.out) HST2.out HH.out HD.out HY.out
end Go.Proofs.YtllaekopaglolaaGreat
end
/-
  A dense store merged into a dense store. (Printed by gen_merged.py.)
-/
section
namespace Go.Proofs.YtllaekopaglolaaGreat
open Go.RowKit
def zWT (f fo:Int→Nat) (off omn omx:Int) (g L cp:Nat) (w wr:World) (i:Value):Prop :=
  ∃ x:Int,i = .int .i64 x∧omn≤x∧x≤omx+1∧Row wr g L cp (fun j=>if off+j<x then f (off+j)+fo (off+j) else f (off+j))∧Fr (fun b=>b=g) w wr
def zWS (F:Int→Nat) (N:Nat) (na nb:Int) (p:Nat) (g:Option Nat) (T:TypeId) (w:World) (e:Ending) (w':World):Prop :=
  ∃ g' L cp,e = .returned (.tuple #[])∧zBW F (.float .f64 (nf N)) na nb p g' L cp [] T w'∧p≠g'∧L≤50000∧Fr (fun b=>b=p∨g=some b) w w'∧(g=some g'∨w.heap.size≤g')
set_option maxRecDepth 100000 in
set_option maxHeartbeats 2000000 in
theorem zHG (f fo:Int→Nat) (n no:Nat) (mn mx na nb omn omx:Int) (p r go Lo cpo:Nat) (g:Option Nat) (w:World) (d3:w.cell? ⟨p,3,none⟩=some (.int .i64 mn)) (d4:w.cell? ⟨p,4,none⟩=some (.int .i64 mx)) (hp:p<w.heap.size)
   (hX:∀ w2,Fr (fun _=>False) w w2→Calls Tryz.prog 184 #[.pointer (some ⟨p,0,none⟩),.int .i64 omn,.int .i64 omx] w2 fun e w'=>zEZ f (.float .f64 (nf n)) na nb p g [] 124 w2 e w')
   (hI:mn≤omn→omx≤mx→∀ w2,Fr (fun _=>False) w w2→zEZ f (.float .f64 (nf n)) na nb p g [] 124 w2 (.returned (.tuple #[])) w2)
   (hna:na≤omn) (hnb:omx≤nb) (hle:omn≤omx) (hlo:-10000≤omn) (hhi:omx≤10000)
   (hdo:zBW fo (.float .f64 (nf no)) omn omx r go Lo cpo [] 124 w) (hz:∀ i,i<omn∨omx<i→fo i=0) (hno:0<no) (hsn:n+no<9007199254740992) (hsm:∀ i,f i+fo i<9007199254740992)
   (hrp:r≠p) (hrg:g≠some r) (hgp:go≠p) (hgg:g≠some go) (hgl:∀ x,g=some x→x<w.heap.size) :
    Calls Tryz.prog 178 #[.pointer (some ⟨p,0,none⟩),.iface 93 (.pointer (some ⟨r,0,none⟩))] w fun e w'=>zWS (fun i=>f i+fo i) (n+no) na nb p g 124 w e w':=by
  have hmf:∀ (fn:Fn) (first cap:Array Value) (w:World),(Instr.makeFunc fn first cap).run Tryz.prog w = .ok (.func fn first cap) w:=fun _ _ _ _=>rfl
  have hta:=fun w=>zBd (P:=Tryz.prog) 93 71 124 (.pointer (some ⟨r,0,none⟩)) Tryz.underlying93 w
  obtain ⟨w1,hw1⟩:∃ w1,w1=w.alloc (.cells #[.pointer (some ⟨p,0,none⟩)] 93):=⟨_,rfl⟩
  have hf01:Fr (fun _=>False) w w1:=by rw [hw1]; exact (Fr.refl _ w).alloc _
  have hs1:w1.heap.size=w.heap.size+1:=by rw [hw1]; simp
  have hbx:w1.heap[w.heap.size]?=some (.cells #[.pointer (some ⟨p,0,none⟩)] 93 (0,0)):=by rw [hw1]; exact heap_alloc_new w _
  have hdo1:=hdo.fr hf01 (fun h=>h) (fun h=>h)
  obtain ⟨offo,hdo2,hro2,q1,q2,q3,q4⟩:=hdo1
  obtain ⟨off0,hdw,hrw,-⟩:=hdo
  have hrlt:=hdw.lt
  have hglt:=hrw.lt
  clear hdw hrw
  obtain ⟨r0,r1,r2,r3,r4⟩:=hdo2.cells
  have HEM:Calls Tryz.prog 175 #[.pointer (some ⟨r,0,none⟩)] (w.alloc (.cells #[.pointer (some ⟨p,0,none⟩)] 93)) fun e w'=>e = .returned (.bool false)∧w'=w1:=by
    rw [← hw1]
    refine (zCb r no (by omega) w1 r1).mono ?_
    rintro e w' ⟨rfl,rfl⟩
    exact ⟨by rw [show (no == 0)=false from by simp; omega],rfl⟩
  have e3:=hf01.cell d3 (fun h=>h)
  have e4:=hf01.cell d4 (fun h=>h)
  have bx0:=cell_of_one hbx
  have hM:∀ w,(method 339 93 (.pointer (some ⟨r,0,none⟩)) "IsEmpty").run Tryz.prog w = .ok (175,.pointer (some ⟨r,0,none⟩)) w:=skD.mEmp r
  have hE:∀ args w,(callFunc 175 args).run Tryz.prog w = .ok (.enter 175 args) w:=skD.eEmp
  have HDO1:=Lib.hid hdo2
  have HRO1:=Lib.hid hro2
  have HBX1:=Lib.hid hbx
  have HX:=Lib.hid hX
  have HI:=Lib.hid hI
  have HF01:=Lib.hid hf01
  have HW1:=Lib.hid hw1
  have HS1:=Lib.hid hs1
  have HZO:=Lib.hid hz
  have HSM:=Lib.hid hsm
  have HSN:=Lib.hid hsn
  have HGP:=Lib.hid hgp
  have HRP:=Lib.hid hrp
  have HRG0:=Lib.hid hrg
  have HGG0:=Lib.hid hgg
  have HGL:=Lib.hid hgl
  clear hX hI hdo2 hro2 hbx hw1 hf01 d3 d4 r0 r1 r2 hz hsm hsn hgp hrp hrg hgg hgl hs1
  by_cases k1:omn<mn
  · have g1:decide (omn<mn)=true:=by simpa using k1
    go_enter Tryz.func178,Tryz.ntmps178
    go_wp2_with (go_at_fn 175; (with_reducible refine HEM.mono ?_); rintro e w2 ⟨rfl,rfl⟩; clear HEM hM hE)
    go_quiet (fail)
    obtain ⟨w5,hw5⟩:∃ w5,w5=w2.drewN nq:=⟨_,rfl⟩
    have HF12:=Lib.hid (show Fr (fun _=>False) w2 w5.drew by rw [hw5]; exact ((Fr.refl _ w2).drewN nq).drew)
    have HX2:=HX.out _ (HF01.out.trans HF12.out (fun _ _ h=>h) (fun _ _ h=>h.elim))
    have s3:w5.cell? ⟨r,3,none⟩=some (.int .i64 omn):=by rw [hw5]; exact r3
    have s4:w5.cell? ⟨r,4,none⟩=some (.int .i64 omx):=by rw [hw5]; exact r4
    have sx:w5.cell? ⟨w.heap.size,0,none⟩=some (.pointer (some ⟨p,0,none⟩)):=by rw [hw5]; exact bx0
    rw [← hw5]
    clear hw5 r3 r4 bx0 e3 e4
    go_wp2
    go_still_tail 9,(by kernel_rfl)
    show wpList _ _ _ _ _ w5.drew
    go_wp2_with fail
    refine HX2.mono ?_
    intro e w3 hx
    have HE2:=Lib.hid hx
    obtain ⟨_,_,_,rfl,-⟩:=hx
    clear HX2 s3 s4 sx
    obtain ⟨g',L,cp,-,⟨off,hd2,hr2,b1,b2,b3,b4⟩,hpg,hll,hf2,hg⟩:=HE2.out
    have hs2:=HF12.out.size
    have hs3:=hf2.size
    have hs1:=HS1.out
    have hgl:=HGL.out
    have hf02:Fr (fun b=>b=p∨g=some b) w w3:=(HF01.out.trans HF12.out (fun _ _ h=>h) (fun _ _ h=>h.elim)).trans hf2 (fun _ _ h=>h.elim) (fun _ _ h=>h)
    have hnew:∀ b,b<w2.heap.size→¬ (g=some b)→b≠g':=fun b hb h h2=>by
      rcases hg with h3 | h3
      · exact h (by rw [h2]; exact h3)
      · omega
    have hrg:=hnew r (by omega) HRG0.out
    have hgg:=hnew go (by omega) HGG0.out
    have hbg:=hnew w.heap.size (by omega) (fun h=>by have:=hgl _ h; omega)
    have hf13:Fr (fun b=>b=p∨g=some b) w2 w3:=HF12.out.trans hf2 (fun _ _ h=>h.elim) (fun _ _ h=>h)
    have hdo3:=HDO1.out.fr hf13 (fun h=>h.elim HRP.out HRG0.out)
    have hro3:=HRO1.out.fr hf13 (fun h=>h.elim HGP.out HGG0.out)
    have hbx3:=hf13.heap HBX1.out (fun h=>h.elim (fun h=>by omega) (fun h=>by have:=hgl _ h; omega))
    have HD2:=Lib.hid hd2
    have HR2:=Lib.hid hr2
    have HDO:=Lib.hid hdo3
    have HRO:=Lib.hid hro3
    have HBX2:=Lib.hid hbx3
    have HPG:=Lib.hid hpg
    have HRG:=Lib.hid hrg
    have HGG:=Lib.hid hgg
    have HBG:=Lib.hid hbg
    have HF2:=Lib.hid hf02
    have HG:=Lib.hid (show g=some g'∨w.heap.size≤g' from hg.imp id (fun h=>by omega))
    have HB1:=Lib.hid (And.intro b1 (And.intro b2 (And.intro b3 b4)))
    have HLL:=Lib.hid hll
    clear HE2 hf2 hf02 hf13 hdo3 hro3 hbx3 hnew hd2 hr2 hpg hrg hgg hbg hg hll hgl hs1 hs2 hs3 HX HI HF12
    obtain ⟨d0,d1,d2,d3,d4⟩:=HD2.out.cells
    obtain ⟨r0,r1,r2,r3,r4⟩:=HDO.out.cells
    have bx0:=cell_of_one HBX2.out
    go_wp2
    clear d0 d1 d2 d3 d4 r0 r1 r2 r3 r4 bx0
    go_loopw [6] (fun i wr=>zWT f fo off omn omx g' L cp w3 wr i) (fun i _=>(omx+1 - intOf i).toNat)
    case atStart=>exact ⟨omn,rfl,Int.le_refl _,by omega,HR2.out.ext (fun j _=>by
        by_cases c:off+(j:Int)<omn
        · rw [if_pos c,HZO.out _ (.inl c),Nat.add_zero]
        · rw [if_neg c]),Fr.refl _ _⟩
    case round =>
      obtain ⟨x,rfl,hx1,hx2,hrow,hfr⟩:=hrel
      obtain ⟨d0,d1,d2,d3,d4⟩:=(HD2.out.fr hfr HPG.out).cells
      obtain ⟨r0,r1,r2,r3,r4⟩:=(HDO.out.fr hfr (fun h=>HRG.out h)).cells
      have bx0:=cell_of_one (hfr.heap HBX2.out (fun h=>HBG.out h))
      by_cases hlt:x≤omx
      · obtain ⟨j,hj⟩:∃ j:Nat,x - off=(j:Int):=⟨(x - off).toNat,by omega⟩
        obtain ⟨k,hk⟩:∃ k:Nat,x - offo=(k:Int):=⟨(x - offo).toNat,by omega⟩
        have hjL:j<L:=by omega
        have hjL':(j:Int)<(L:Int):=by omega
        have hkL:k<Lo:=by omega
        have hkL':(k:Int)<(Lo:Int):=by omega
        have hcell:=hrow.cell j hjL
        have hfree:=hrow.free j
        have hox:off+(j:Int)=x:=by omega
        rw [hox,if_neg (by omega)] at hcell
        have hoc:=(HRO.out.fr hfr (fun h=>HGG.out h)).cell k hkL
        rw [show offo+(k:Int)=x from by omega] at hoc
        have hadd:=fun w:World=>run_float_arith (P:=Tryz.prog) w .add 29 .f64 _ _ _ (zAz (f x) (fo x) (HSM.out x))
        have i1:IntKind.i64.wrap (x - off)=(j:Int):=by rw [IntKind.wrap_i64]; omega
        have i2:IntKind.i64.wrap (x - offo)=(k:Int):=by rw [IntKind.wrap_i64]; omega
        have i3:IntKind.i64.wrap (x+1)=x+1:=by rw [IntKind.wrap_i64]; omega
        obtain ⟨u,hu⟩:∃ u,u=nf (f x):=⟨_,rfl⟩
        obtain ⟨v,hv⟩:∃ v,v=nf (fo x):=⟨_,rfl⟩
        obtain ⟨y,hy⟩:∃ y,y=nf (f x+fo x):=⟨_,rfl⟩
        rw [← hu] at hcell hadd
        rw [← hv] at hoc hadd
        rw [← hy] at hadd
        have HY:=Lib.hid hy
        have HO:=Lib.hid hrow
        have HFR:=Lib.hid hfr
        have HX:=Lib.hid hox
        clear hrow hfr hox hu hv hy hj hk
        go_wp2
        go_still_tail 26,(by kernel_rfl)
        show wpList _ _ _ _ _ wr.drew
        go_wp2
        go_roundw
        case rel =>
          have hset:=HO.out.drew.set j (f x+fo x) hjL
          rw [← HY.out] at hset
          refine ⟨x+1,by go_num,by omega,by omega,hset.ext (fun i hi=>?_),HFR.out.drew.setCell (p:=⟨g',j,none⟩) (fun _=>rfl) _⟩
          have hox:=HX.out
          by_cases hij:(i:Int)=(j:Int)
          · rw [if_pos hij,if_pos (by omega),show off+(i:Int)=x from by omega]
          · rw [if_neg hij]
            by_cases hi2:off+(i:Int)<x
            · rw [if_pos hi2,if_pos (by omega)]
            · rw [if_neg hi2,if_neg (by omega)]
        case measure=>simp [intOf]; omega
      · have hadd:=fun w:World=>run_float_arith (P:=Tryz.prog) w .add 29 .f64 _ _ _ (zAz n no HSN.out)
        have f1:=(HD2.out.fr hfr HPG.out).free 1
        obtain ⟨c1,hc1⟩:∃ c1,c1=nf n:=⟨_,rfl⟩
        obtain ⟨c2,hc2⟩:∃ c2,c2=nf no:=⟨_,rfl⟩
        obtain ⟨c3,hc3⟩:∃ c3,c3=nf (n+no):=⟨_,rfl⟩
        rw [← hc1] at d1 hadd
        rw [← hc2] at r1 hadd
        rw [← hc3] at hadd
        have HC3:=Lib.hid hc3
        have HO:=Lib.hid hrow
        have HFR:=Lib.hid hfr
        clear hrow hfr hc1 hc2 hc3
        go_wp2
        go_still_tail 11,(by kernel_rfl)
        show wpList _ _ _ _ _ wr.drew
        go_wp2
        go_end0
        have hd9:=((HD2.out.fr HFR.out HPG.out).drew).set1 (.float .f64 c3)
        have hr9:Row (wr.drew.setCell ⟨p,1,none⟩ (.float .f64 c3)) g' L cp (fun j=>f (off+j)+fo (off+j)):=(HO.out.drew.other (p:=⟨p,1,none⟩) HPG.out _).ext (fun i hi=>by
          by_cases hi2:off+(i:Int)<x
          · rw [if_pos hi2]
          · rw [if_neg hi2,HZO.out _ (.inr (by omega)),Nat.add_zero])
        rw [HC3.out] at hd9 hr9
        refine ⟨g',L,cp,rfl,⟨off,by rw [HC3.out]; exact hd9,by rw [HC3.out]; exact hr9,HB1.out.1,HB1.out.2.1,HB1.out.2.2.1,HB1.out.2.2.2⟩,HPG.out,HLL.out,?_,HG.out⟩
        refine ((HF2.out.trans HFR.out.drew (fun _ _ h=>h) (fun i hi h=>?_))).setCell (p:=⟨p,1,none⟩) (fun _=>.inl rfl) _
        rcases HG.out with h2 | h2
        · right; rw [h2,h]
        · omega
  · have g1:decide (omn<mn)=false:=by simpa using k1
    by_cases k2:mx<omx
    · have g2:decide (mx<omx)=true:=by simpa using k2
      go_enter Tryz.func178,Tryz.ntmps178
      go_wp2_with (go_at_fn 175; (with_reducible refine HEM.mono ?_); rintro e w2 ⟨rfl,rfl⟩; clear HEM hM hE)
      go_quiet (fail)
      obtain ⟨w5,hw5⟩:∃ w5,w5=w2.drewN nq:=⟨_,rfl⟩
      have HF12:=Lib.hid (show Fr (fun _=>False) w2 w5.drew by rw [hw5]; exact ((Fr.refl _ w2).drewN nq).drew)
      have HX2:=HX.out _ (HF01.out.trans HF12.out (fun _ _ h=>h) (fun _ _ h=>h.elim))
      have s3:w5.cell? ⟨r,3,none⟩=some (.int .i64 omn):=by rw [hw5]; exact r3
      have s4:w5.cell? ⟨r,4,none⟩=some (.int .i64 omx):=by rw [hw5]; exact r4
      have sx:w5.cell? ⟨w.heap.size,0,none⟩=some (.pointer (some ⟨p,0,none⟩)):=by rw [hw5]; exact bx0
      rw [← hw5]
      clear hw5 r3 r4 bx0 e3 e4
      go_wp2
      go_still_tail 9,(by kernel_rfl)
      show wpList _ _ _ _ _ w5.drew
      go_wp2_with fail
      refine HX2.mono ?_
      intro e w3 hx
      have HE2:=Lib.hid hx
      obtain ⟨_,_,_,rfl,-⟩:=hx
      clear HX2 s3 s4 sx
      obtain ⟨g',L,cp,-,⟨off,hd2,hr2,b1,b2,b3,b4⟩,hpg,hll,hf2,hg⟩:=HE2.out
      have hs2:=HF12.out.size
      have hs3:=hf2.size
      have hs1:=HS1.out
      have hgl:=HGL.out
      have hf02:Fr (fun b=>b=p∨g=some b) w w3:=(HF01.out.trans HF12.out (fun _ _ h=>h) (fun _ _ h=>h.elim)).trans hf2 (fun _ _ h=>h.elim) (fun _ _ h=>h)
      have hnew:∀ b,b<w2.heap.size→¬ (g=some b)→b≠g':=fun b hb h h2=>by
        rcases hg with h3 | h3
        · exact h (by rw [h2]; exact h3)
        · omega
      have hrg:=hnew r (by omega) HRG0.out
      have hgg:=hnew go (by omega) HGG0.out
      have hbg:=hnew w.heap.size (by omega) (fun h=>by have:=hgl _ h; omega)
      have hf13:Fr (fun b=>b=p∨g=some b) w2 w3:=HF12.out.trans hf2 (fun _ _ h=>h.elim) (fun _ _ h=>h)
      have hdo3:=HDO1.out.fr hf13 (fun h=>h.elim HRP.out HRG0.out)
      have hro3:=HRO1.out.fr hf13 (fun h=>h.elim HGP.out HGG0.out)
      have hbx3:=hf13.heap HBX1.out (fun h=>h.elim (fun h=>by omega) (fun h=>by have:=hgl _ h; omega))
      have HD2:=Lib.hid hd2
      have HR2:=Lib.hid hr2
      have HDO:=Lib.hid hdo3
      have HRO:=Lib.hid hro3
      have HBX2:=Lib.hid hbx3
      have HPG:=Lib.hid hpg
      have HRG:=Lib.hid hrg
      have HGG:=Lib.hid hgg
      have HBG:=Lib.hid hbg
      have HF2:=Lib.hid hf02
      have HG:=Lib.hid (show g=some g'∨w.heap.size≤g' from hg.imp id (fun h=>by omega))
      have HB1:=Lib.hid (And.intro b1 (And.intro b2 (And.intro b3 b4)))
      have HLL:=Lib.hid hll
      clear HE2 hf2 hf02 hf13 hdo3 hro3 hbx3 hnew hd2 hr2 hpg hrg hgg hbg hg hll hgl hs1 hs2 hs3 HX HI HF12
      obtain ⟨d0,d1,d2,d3,d4⟩:=HD2.out.cells
      obtain ⟨r0,r1,r2,r3,r4⟩:=HDO.out.cells
      have bx0:=cell_of_one HBX2.out
      go_wp2
      clear d0 d1 d2 d3 d4 r0 r1 r2 r3 r4 bx0
      go_loopw [6] (fun i wr=>zWT f fo off omn omx g' L cp w3 wr i) (fun i _=>(omx+1 - intOf i).toNat)
      case atStart=>exact ⟨omn,rfl,Int.le_refl _,by omega,HR2.out.ext (fun j _=>by
          by_cases c:off+(j:Int)<omn
          · rw [if_pos c,HZO.out _ (.inl c),Nat.add_zero]
          · rw [if_neg c]),Fr.refl _ _⟩
      case round =>
        obtain ⟨x,rfl,hx1,hx2,hrow,hfr⟩:=hrel
        obtain ⟨d0,d1,d2,d3,d4⟩:=(HD2.out.fr hfr HPG.out).cells
        obtain ⟨r0,r1,r2,r3,r4⟩:=(HDO.out.fr hfr (fun h=>HRG.out h)).cells
        have bx0:=cell_of_one (hfr.heap HBX2.out (fun h=>HBG.out h))
        by_cases hlt:x≤omx
        · obtain ⟨j,hj⟩:∃ j:Nat,x - off=(j:Int):=⟨(x - off).toNat,by omega⟩
          obtain ⟨k,hk⟩:∃ k:Nat,x - offo=(k:Int):=⟨(x - offo).toNat,by omega⟩
          have hjL:j<L:=by omega
          have hjL':(j:Int)<(L:Int):=by omega
          have hkL:k<Lo:=by omega
          have hkL':(k:Int)<(Lo:Int):=by omega
          have hcell:=hrow.cell j hjL
          have hfree:=hrow.free j
          have hox:off+(j:Int)=x:=by omega
          rw [hox,if_neg (by omega)] at hcell
          have hoc:=(HRO.out.fr hfr (fun h=>HGG.out h)).cell k hkL
          rw [show offo+(k:Int)=x from by omega] at hoc
          have hadd:=fun w:World=>run_float_arith (P:=Tryz.prog) w .add 29 .f64 _ _ _ (zAz (f x) (fo x) (HSM.out x))
          have i1:IntKind.i64.wrap (x - off)=(j:Int):=by rw [IntKind.wrap_i64]; omega
          have i2:IntKind.i64.wrap (x - offo)=(k:Int):=by rw [IntKind.wrap_i64]; omega
          have i3:IntKind.i64.wrap (x+1)=x+1:=by rw [IntKind.wrap_i64]; omega
          obtain ⟨u,hu⟩:∃ u,u=nf (f x):=⟨_,rfl⟩
          obtain ⟨v,hv⟩:∃ v,v=nf (fo x):=⟨_,rfl⟩
          obtain ⟨y,hy⟩:∃ y,y=nf (f x+fo x):=⟨_,rfl⟩
          rw [← hu] at hcell hadd
          rw [← hv] at hoc hadd
          rw [← hy] at hadd
          have HY:=Lib.hid hy
          have HO:=Lib.hid hrow
          have HFR:=Lib.hid hfr
          have HX:=Lib.hid hox
          clear hrow hfr hox hu hv hy hj hk
          go_wp2
          go_still_tail 26,(by kernel_rfl)
          show wpList _ _ _ _ _ wr.drew
          go_wp2
          go_roundw
          case rel =>
            have hset:=HO.out.drew.set j (f x+fo x) hjL
            rw [← HY.out] at hset
            refine ⟨x+1,by go_num,by omega,by omega,hset.ext (fun i hi=>?_),HFR.out.drew.setCell (p:=⟨g',j,none⟩) (fun _=>rfl) _⟩
            have hox:=HX.out
            by_cases hij:(i:Int)=(j:Int)
            · rw [if_pos hij,if_pos (by omega),show off+(i:Int)=x from by omega]
            · rw [if_neg hij]
              by_cases hi2:off+(i:Int)<x
              · rw [if_pos hi2,if_pos (by omega)]
              · rw [if_neg hi2,if_neg (by omega)]
          case measure=>simp [intOf]; omega
        · have hadd:=fun w:World=>run_float_arith (P:=Tryz.prog) w .add 29 .f64 _ _ _ (zAz n no HSN.out)
          have f1:=(HD2.out.fr hfr HPG.out).free 1
          obtain ⟨c1,hc1⟩:∃ c1,c1=nf n:=⟨_,rfl⟩
          obtain ⟨c2,hc2⟩:∃ c2,c2=nf no:=⟨_,rfl⟩
          obtain ⟨c3,hc3⟩:∃ c3,c3=nf (n+no):=⟨_,rfl⟩
          rw [← hc1] at d1 hadd
          rw [← hc2] at r1 hadd
          rw [← hc3] at hadd
          have HC3:=Lib.hid hc3
          have HO:=Lib.hid hrow
          have HFR:=Lib.hid hfr
          clear hrow hfr hc1 hc2 hc3
          go_wp2
          go_still_tail 11,(by kernel_rfl)
          show wpList _ _ _ _ _ wr.drew
          go_wp2
          go_end0
          have hd9:=((HD2.out.fr HFR.out HPG.out).drew).set1 (.float .f64 c3)
          have hr9:Row (wr.drew.setCell ⟨p,1,none⟩ (.float .f64 c3)) g' L cp (fun j=>f (off+j)+fo (off+j)):=(HO.out.drew.other (p:=⟨p,1,none⟩) HPG.out _).ext (fun i hi=>by
            by_cases hi2:off+(i:Int)<x
            · rw [if_pos hi2]
            · rw [if_neg hi2,HZO.out _ (.inr (by omega)),Nat.add_zero])
          rw [HC3.out] at hd9 hr9
          refine ⟨g',L,cp,rfl,⟨off,by rw [HC3.out]; exact hd9,by rw [HC3.out]; exact hr9,HB1.out.1,HB1.out.2.1,HB1.out.2.2.1,HB1.out.2.2.2⟩,HPG.out,HLL.out,?_,HG.out⟩
          refine ((HF2.out.trans HFR.out.drew (fun _ _ h=>h) (fun i hi h=>?_))).setCell (p:=⟨p,1,none⟩) (fun _=>.inl rfl) _
          rcases HG.out with h2 | h2
          · right; rw [h2,h]
          · omega
    · have g2:decide (mx<omx)=false:=by simpa using k2
      go_enter Tryz.func178,Tryz.ntmps178
      go_wp2_with (go_at_fn 175; (with_reducible refine HEM.mono ?_); rintro e w2 ⟨rfl,rfl⟩; clear HEM hM hE)
      go_quiet (fail)
      obtain ⟨w3,hw3⟩:∃ w3,w3=w2.drewN nq:=⟨_,rfl⟩
      have HF12:=Lib.hid (show Fr (fun _=>False) w2 w3 by rw [hw3]; exact (Fr.refl _ w2).drewN nq)
      have HE2:=Lib.hid (HI.out (by omega) (by omega) w3 (HF01.out.trans HF12.out (fun _ _ h=>h) (fun _ _ h=>h.elim)))
      rw [← hw3]
      clear hw3 e3 e4 bx0 r3 r4
      obtain ⟨g',L,cp,-,⟨off,hd2,hr2,b1,b2,b3,b4⟩,hpg,hll,hf2,hg⟩:=HE2.out
      have hs2:=HF12.out.size
      have hs3:=hf2.size
      have hs1:=HS1.out
      have hgl:=HGL.out
      have hf02:Fr (fun b=>b=p∨g=some b) w w3:=(HF01.out.trans HF12.out (fun _ _ h=>h) (fun _ _ h=>h.elim)).trans hf2 (fun _ _ h=>h.elim) (fun _ _ h=>h)
      have hnew:∀ b,b<w2.heap.size→¬ (g=some b)→b≠g':=fun b hb h h2=>by
        rcases hg with h3 | h3
        · exact h (by rw [h2]; exact h3)
        · omega
      have hrg:=hnew r (by omega) HRG0.out
      have hgg:=hnew go (by omega) HGG0.out
      have hbg:=hnew w.heap.size (by omega) (fun h=>by have:=hgl _ h; omega)
      have hf13:Fr (fun b=>b=p∨g=some b) w2 w3:=HF12.out.trans hf2 (fun _ _ h=>h.elim) (fun _ _ h=>h)
      have hdo3:=HDO1.out.fr hf13 (fun h=>h.elim HRP.out HRG0.out)
      have hro3:=HRO1.out.fr hf13 (fun h=>h.elim HGP.out HGG0.out)
      have hbx3:=hf13.heap HBX1.out (fun h=>h.elim (fun h=>by omega) (fun h=>by have:=hgl _ h; omega))
      have HD2:=Lib.hid hd2
      have HR2:=Lib.hid hr2
      have HDO:=Lib.hid hdo3
      have HRO:=Lib.hid hro3
      have HBX2:=Lib.hid hbx3
      have HPG:=Lib.hid hpg
      have HRG:=Lib.hid hrg
      have HGG:=Lib.hid hgg
      have HBG:=Lib.hid hbg
      have HF2:=Lib.hid hf02
      have HG:=Lib.hid (show g=some g'∨w.heap.size≤g' from hg.imp id (fun h=>by omega))
      have HB1:=Lib.hid (And.intro b1 (And.intro b2 (And.intro b3 b4)))
      have HLL:=Lib.hid hll
      clear HE2 hf2 hf02 hf13 hdo3 hro3 hbx3 hnew hd2 hr2 hpg hrg hgg hbg hg hll hgl hs1 hs2 hs3 HX HI HF12
      obtain ⟨d0,d1,d2,d3,d4⟩:=HD2.out.cells
      obtain ⟨r0,r1,r2,r3,r4⟩:=HDO.out.cells
      have bx0:=cell_of_one HBX2.out
      go_wp2
      clear d0 d1 d2 d3 d4 r0 r1 r2 r3 r4 bx0
      go_loopw [6] (fun i wr=>zWT f fo off omn omx g' L cp w3 wr i) (fun i _=>(omx+1 - intOf i).toNat)
      case atStart=>exact ⟨omn,rfl,Int.le_refl _,by omega,HR2.out.ext (fun j _=>by
          by_cases c:off+(j:Int)<omn
          · rw [if_pos c,HZO.out _ (.inl c),Nat.add_zero]
          · rw [if_neg c]),Fr.refl _ _⟩
      case round =>
        obtain ⟨x,rfl,hx1,hx2,hrow,hfr⟩:=hrel
        obtain ⟨d0,d1,d2,d3,d4⟩:=(HD2.out.fr hfr HPG.out).cells
        obtain ⟨r0,r1,r2,r3,r4⟩:=(HDO.out.fr hfr (fun h=>HRG.out h)).cells
        have bx0:=cell_of_one (hfr.heap HBX2.out (fun h=>HBG.out h))
        by_cases hlt:x≤omx
        · obtain ⟨j,hj⟩:∃ j:Nat,x - off=(j:Int):=⟨(x - off).toNat,by omega⟩
          obtain ⟨k,hk⟩:∃ k:Nat,x - offo=(k:Int):=⟨(x - offo).toNat,by omega⟩
          have hjL:j<L:=by omega
          have hjL':(j:Int)<(L:Int):=by omega
          have hkL:k<Lo:=by omega
          have hkL':(k:Int)<(Lo:Int):=by omega
          have hcell:=hrow.cell j hjL
          have hfree:=hrow.free j
          have hox:off+(j:Int)=x:=by omega
          rw [hox,if_neg (by omega)] at hcell
          have hoc:=(HRO.out.fr hfr (fun h=>HGG.out h)).cell k hkL
          rw [show offo+(k:Int)=x from by omega] at hoc
          have hadd:=fun w:World=>run_float_arith (P:=Tryz.prog) w .add 29 .f64 _ _ _ (zAz (f x) (fo x) (HSM.out x))
          have i1:IntKind.i64.wrap (x - off)=(j:Int):=by rw [IntKind.wrap_i64]; omega
          have i2:IntKind.i64.wrap (x - offo)=(k:Int):=by rw [IntKind.wrap_i64]; omega
          have i3:IntKind.i64.wrap (x+1)=x+1:=by rw [IntKind.wrap_i64]; omega
          obtain ⟨u,hu⟩:∃ u,u=nf (f x):=⟨_,rfl⟩
          obtain ⟨v,hv⟩:∃ v,v=nf (fo x):=⟨_,rfl⟩
          obtain ⟨y,hy⟩:∃ y,y=nf (f x+fo x):=⟨_,rfl⟩
          rw [← hu] at hcell hadd
          rw [← hv] at hoc hadd
          rw [← hy] at hadd
          have HY:=Lib.hid hy
          have HO:=Lib.hid hrow
          have HFR:=Lib.hid hfr
          have HX:=Lib.hid hox
          clear hrow hfr hox hu hv hy hj hk
          go_wp2
          go_still_tail 26,(by kernel_rfl)
          show wpList _ _ _ _ _ wr.drew
          go_wp2
          go_roundw
          case rel =>
            have hset:=HO.out.drew.set j (f x+fo x) hjL
            rw [← HY.out] at hset
            refine ⟨x+1,by go_num,by omega,by omega,hset.ext (fun i hi=>?_),HFR.out.drew.setCell (p:=⟨g',j,none⟩) (fun _=>rfl) _⟩
            have hox:=HX.out
            by_cases hij:(i:Int)=(j:Int)
            · rw [if_pos hij,if_pos (by omega),show off+(i:Int)=x from by omega]
            · rw [if_neg hij]
              by_cases hi2:off+(i:Int)<x
              · rw [if_pos hi2,if_pos (by omega)]
              · rw [if_neg hi2,if_neg (by omega)]
          case measure=>simp [intOf]; omega
        · have hadd:=fun w:World=>run_float_arith (P:=Tryz.prog) w .add 29 .f64 _ _ _ (zAz n no HSN.out)
          have f1:=(HD2.out.fr hfr HPG.out).free 1
          obtain ⟨c1,hc1⟩:∃ c1,c1=nf n:=⟨_,rfl⟩
          obtain ⟨c2,hc2⟩:∃ c2,c2=nf no:=⟨_,rfl⟩
          obtain ⟨c3,hc3⟩:∃ c3,c3=nf (n+no):=⟨_,rfl⟩
          rw [← hc1] at d1 hadd
          rw [← hc2] at r1 hadd
          rw [← hc3] at hadd
          have HC3:=Lib.hid hc3
          have HO:=Lib.hid hrow
          have HFR:=Lib.hid hfr
          clear hrow hfr hc1 hc2 hc3
          go_wp2
          go_still_tail 11,(by kernel_rfl)
          show wpList _ _ _ _ _ wr.drew
          go_wp2
          go_end0
          have hd9:=((HD2.out.fr HFR.out HPG.out).drew).set1 (.float .f64 c3)
          have hr9:Row (wr.drew.setCell ⟨p,1,none⟩ (.float .f64 c3)) g' L cp (fun j=>f (off+j)+fo (off+j)):=(HO.out.drew.other (p:=⟨p,1,none⟩) HPG.out _).ext (fun i hi=>by
            by_cases hi2:off+(i:Int)<x
            · rw [if_pos hi2]
            · rw [if_neg hi2,HZO.out _ (.inr (by omega)),Nat.add_zero])
          rw [HC3.out] at hd9 hr9
          refine ⟨g',L,cp,rfl,⟨off,by rw [HC3.out]; exact hd9,by rw [HC3.out]; exact hr9,HB1.out.1,HB1.out.2.1,HB1.out.2.2.1,HB1.out.2.2.2⟩,HPG.out,HLL.out,?_,HG.out⟩
          refine ((HF2.out.trans HFR.out.drew (fun _ _ h=>h) (fun i hi h=>?_))).setCell (p:=⟨p,1,none⟩) (fun _=>.inl rfl) _
          rcases HG.out with h2 | h2
          · right; rw [h2,h]
          · omega
end Go.Proofs.YtllaekopaglolaaGreat
end
