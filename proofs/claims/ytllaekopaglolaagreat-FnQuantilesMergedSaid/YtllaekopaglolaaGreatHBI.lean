/-
  The value at a quantile,of a sketch without its summary.
-/
import Derived.Test.YtllaekopaglolaaGreatHBH
import Derived.OwnWalk
section
namespace Go.Proofs.YtllaekopaglolaaGreat
open Go.RowKit
def zB4 {kind:Int} (K:zAD kind) (tP t:TypeId) (most:Int) (g off mult mn mx:Nat) (ps ns:Bins) (z:Nat) (SP SN:Nat→Prop) (pd pm pp pn:Nat) (w w':World):Prop :=
  ∃ SP' SN',Dd K tP t most g off mult mn mx ps ns z SP' SN' pd pm pp pn w'∧Fr (fun b=>SP b∨SN b) w w'∧(∀ b,SP' b→SP b∨w.heap.size≤b)∧∀ b,SN' b→SN b∨w.heap.size≤b
def zEY (f:Int→Nat) (n r:Nat) (k:Int):Prop:=fgt2 (nf 0) (rk r)=false∧fgt2 (nf n) (rk r)=true∧((FloatKind.f64.format.order r 0 == some .lt)=true→∀ n,0<n→n<9007199254740992→fgt2 (nf n) 0=true∧fgt2 (nf n) r=true)∧zB5 f (rk r) k
section
variable {kind mk:Int} {K:zAD kind} {of_:Nat→Option (Nat × Nat × Nat × Nat × Nat)} {acc:Nat→Option Nat} {idx:Nat→Nat→Nat→Option Int} {lower:Nat→Nat→Int→Option Nat} {value:Nat→Nat→Nat→Int→Option Nat}
variable {most:Int} {g off mult mn mx:Nat} {ps ns:Bins} {z:Nat} {SP SN:Nat→Prop} {pd pm pp pn:Nat} {w:World}
theorem zB4.refl {tP t:TypeId} (h:Dd K tP t most g off mult mn mx ps ns z SP SN pd pm pp pn w):zB4 K tP t most g off mult mn mx ps ns z SP SN pd pm pp pn w w:=⟨SP,SN,h,Fr.refl _ _,fun _ hb=>.inl hb,fun _ hb=>.inl hb⟩
theorem zB4.trans {tP t:TypeId} {w1 w2:World} {SP1 SN1:Nat→Prop} (hf:Fr (fun b=>SP b∨SN b) w w1) (h1:∀ b,SP1 b→SP b∨w.heap.size≤b) (h2:∀ b,SN1 b→SN b∨w.heap.size≤b) (h:zB4 K tP t most g off mult mn mx ps ns z SP1 SN1 pd pm pp pn w1 w2):zB4 K tP t most g off mult mn mx ps ns z SP SN pd pm pp pn w w2:=by
  obtain ⟨SP',SN',a,b,c,d⟩:=h
  have hz:=hf.size
  refine ⟨SP',SN',a,hf.trans b (fun _ _ h=>h) (fun i hi h=>?_),fun b hb=>?_,fun b hb=>?_⟩
  · rcases h with h | h
    · rcases h1 i h with h | h
      · exact .inl h
      · omega
    · rcases h2 i h with h | h
      · exact .inr h
      · omega
  · rcases c b hb with h | h
    · exact h1 b h
    · right; omega
  · rcases d b hb with h | h
    · exact h2 b h
    · right; omega
def zRA (K:zAD kind) (tP t:TypeId) (most:Int) (g off mult mn mx:Nat) (ps ns:Bins) (z:Nat) (SP SN:Nat→Prop) (pd pm pp pn out:Nat) (w:World) (e:Ending) (w':World):Prop :=
  e = .returned (.tuple #[.float .f64 out,.nilIface])∧zB4 K tP t most g off mult mn mx ps ns z SP SN pd pm pp pn w w'
set_option maxRecDepth 100000 in
set_option maxHeartbeats 2000000 in
theorem zTj (Q:zCJ K) (M:zBK mk of_ acc idx lower value) (q r r1 r' V:Nat) (k:Int) (h:Dd K M.tP M.t most g off mult mn mx ps ns z SP SN pd pm pp pn w) (hp:Few kind most ps) (hn:Few kind most ns) (hz:z<1000000) (hc:0<z+tot ps+tot ns)
   (q0:flt q 0=false) (q1:fgt q 4607182418800017408=false) (hr:fmul q (nf (z+tot ps+tot ns - 1))=some r) (hlt:flt r (nf (tot ns))=true) (hr1:fsub (nf (tot ns)) 4607182418800017408=some r1) (hr2:fsub r1 r=some r')
   (hone:fsub (nf (z+tot ps+tot ns)) 4607182418800017408=some (nf (z+tot ps+tot ns - 1))) (hk:zEY (cntB ns) (tot ns) r' k) (hV:value g off mult k=some V) :
    Calls Tryz.prog 65 #[.pointer (some ⟨pd,0,none⟩),.float .f64 q] w fun e w'=>zRA K M.tP M.t most g off mult mn mx ps ns z SP SN pd pm pp pn (negF V) w e w':=by
  have k0:(FloatKind.f64.format.order q 0 == some .lt)=false:=q0
  have k1:(FloatKind.f64.format.order q 4607182418800017408 == some .gt)=false:=q1
  have k2:(FloatKind.f64.format.order r (nf (tot ns)) == some .lt)=true:=hlt
  have ht1:=hp.tot
  have ht2:=hn.tot
  have k3:(FloatKind.f64.format.order (nf (z+tot ps+tot ns)) 0 == some .eq)=false:=by
    have h1:=zBn (z+tot ps+tot ns) 0 (by omega) (by decide)
    rw [zAp] at h1
    rw [h1,Nat.compare_eq_gt.2 hc]; rfl
  have HC:=zHh Q h hp hn hz
  have s1:=fun w:World=>run_float_arith (P:=Tryz.prog) w .sub 29 .f64 _ _ _ hone
  have s2:=fun w:World=>run_float_arith (P:=Tryz.prog) w .mul 29 .f64 _ _ _ hr
  have s3:=fun w:World=>run_float_arith (P:=Tryz.prog) w .sub 29 .f64 _ _ _ hr1
  have s4:=fun w:World=>run_float_arith (P:=Tryz.prog) w .sub 29 .f64 _ _ _ hr2
  have CT:∀ w',Dd K M.tP M.t most g off mult mn mx ps ns z SP SN pd pm pp pn w'→Calls Tryz.prog Q.fTot #[.pointer (some ⟨pn,0,none⟩)] w' fun e w''=>e = .returned (.float .f64 (nf (tot ns)))∧zHr K most ns SN pn w' w'':=fun w' h'=>Q.cTot most ns SN pn w' h'.sn hn
  obtain ⟨f1,f2,f3,f4⟩:=hk
  have CK:∀ w',Dd K M.tP M.t most g off mult mn mx ps ns z SP SN pd pm pp pn w'→Calls Tryz.prog K.fKey #[.pointer (some ⟨pn,0,none⟩),.float .f64 r'] w'.drew fun e w''=>e = .returned (.int .i64 k)∧∃ S',K.St most ns S' pn w''∧Fr SN w'.drew w''∧∀ b,S' b→SN b∨w'.drew.heap.size≤b :=
    fun w' h'=>(Q.cKey most ns SN pn r' w'.drew (h'.drewN 1).sn hn f1 f2 f3).mono fun e w'' ⟨⟨k',he,hk'⟩,hS⟩=>⟨by rw [he,hk'.unique f4],hS⟩
  have CV:∀ w',Map5 M.t w' pm g off mult mn mx→Calls Tryz.prog M.fVal #[.pointer (some ⟨pm,0,none⟩),.int .i64 k] w' fun e w''=>zDz (.float .f64 V) w' e w'':=fun w' hm=>M.cVal pm g off mult mn mx k V w' hm hV
  have m1:=Q.mTot pn
  have e1:=Q.eTot
  have m2:=K.mKey pn
  have e2:=K.eKey
  have m3:=M.mVal pm
  have e3:=M.eVal
  obtain ⟨nn,hnn⟩:∃ y,y=nf (tot ns):=⟨_,rfl⟩
  obtain ⟨N,hN⟩:∃ y,y=nf (z+tot ps+tot ns):=⟨_,rfl⟩
  obtain ⟨N1,hN1⟩:∃ y,y=nf (z+tot ps+tot ns - 1):=⟨_,rfl⟩
  rw [← hnn] at k2 s3 CT
  rw [← hN] at k3 HC s1
  rw [← hN1] at s1 s2
  clear h hp hn hz hc q0 q1 hr hlt hr1 hr2 hone hV ht1 ht2 hnn hN hN1 f1 f2 f3 f4
  go_enter Tryz.func65,Tryz.ntmps65
  go_wp2_with fail
  refine HC.mono ?_
  clear HC
  rintro e w1 ⟨rfl,h1,hf1⟩
  obtain ⟨d0,-,d2,-⟩:=h1.cells
  have CT1:=CT w1 h1
  have H1:=Lib.hid h1
  have HF1:=Lib.hid hf1
  clear h1 hf1 CT
  go_wp2_with fail
  refine CT1.mono ?_
  clear CT1 d0 d2
  rintro e w2 ⟨rfl,hk2⟩
  have h2:=H1.out.keyN hk2.1 hk2.2 (fun _ hb=>.inl hb)
  have HF2:Hid (Fr (fun b=>SP b∨SN b) w w2):=HF1.out.trans hk2.2 (fun _ _ h=>h) (fun _ _ h=>.inr h)
  have CK2:=CK w2 h2
  have HK:∀ w',(∃ S',K.St most ns S' pn w'∧Fr SN w2.drew w'∧∀ b,S' b→SN b∨w2.drew.heap.size≤b)→(w'.cell? ⟨pd,0,none⟩=some (.iface M.tP (.pointer (some ⟨pm,0,none⟩)))∧w'.cell? ⟨pd,2,none⟩=some (.iface K.T (.pointer (some ⟨pn,0,none⟩))))∧Map5 M.t w' pm g off mult mn mx∧zB4 K M.tP M.t most g off mult mn mx ps ns z SP SN pd pm pp pn w2 w':=fun w' ⟨S',a,b,c⟩=>by
    have hd:=(h2.drewN 1).keyN a b c
    exact ⟨⟨hd.cells.1,hd.cells.2.2.1⟩,hd.bm,SP,S',hd,((Fr.refl (fun b=>SP b∨SN b) w2).drew).trans b (fun _ _ h=>h) (fun _ _ h=>.inr h),fun _ hb=>.inl hb,c⟩
  have hs0:(w2.drew.cell? ⟨pd,0,none⟩=some (.iface M.tP (.pointer (some ⟨pm,0,none⟩)))∧w2.drew.cell? ⟨pd,2,none⟩=some (.iface K.T (.pointer (some ⟨pn,0,none⟩))))∧Map5 M.t w2.drew pm g off mult mn mx∧zB4 K M.tP M.t most g off mult mn mx ps ns z SP SN pd pm pp pn w2 w2.drew:=HK w2.drew ⟨SN,(h2.drewN 1).sn,Fr.refl _ _,fun _ hb=>.inl hb⟩
  have HV:∀ w',(w'.cell? ⟨pd,0,none⟩=some (.iface M.tP (.pointer (some ⟨pm,0,none⟩)))∧w'.cell? ⟨pd,2,none⟩=some (.iface K.T (.pointer (some ⟨pn,0,none⟩))))∧Map5 M.t w' pm g off mult mn mx∧zB4 K M.tP M.t most g off mult mn mx ps ns z SP SN pd pm pp pn w2 w'→∀ n,(((w'.drewN n).cell? ⟨pd,0,none⟩=some (.iface M.tP (.pointer (some ⟨pm,0,none⟩)))∧(w'.drewN n).cell? ⟨pd,2,none⟩=some (.iface K.T (.pointer (some ⟨pn,0,none⟩))))∧Map5 M.t (w'.drewN n) pm g off mult mn mx∧zB4 K M.tP M.t most g off mult mn mx ps ns z SP SN pd pm pp pn w2 (w'.drewN n)):=fun w' h' n=>by
    obtain ⟨a,b,SP',SN',c,d,e,f⟩:=h'
    exact ⟨a,b,SP',SN',c.drewN n,d.drewN n,e,f⟩
  have c0:=h2.cells.1
  have c2:=h2.cells.2.2.1
  have H2:=Lib.hid h2
  clear hk2 h2 CK
  go_wp2_with fail
  go_region_held3 (fun w'=>(w'.cell? ⟨pd,0,none⟩=some (.iface M.tP (.pointer (some ⟨pm,0,none⟩)))∧w'.cell? ⟨pd,2,none⟩=some (.iface K.T (.pointer (some ⟨pn,0,none⟩))))∧Map5 M.t w' pm g off mult mn mx∧zB4 K M.tP M.t most g off mult mn mx ps ns z SP SN pd pm pp pn w2 w')
    (first | (with_reducible exact hs0) | (with_reducible exact hs1) | (with_reducible exact hs2))
    (first | (go_at_fn K.fKey; (with_reducible refine CK2.mono ?_); rintro e w3 ⟨rfl,hk3⟩; have hs1:=HK w3 hk3; have CV1:=CV w3 hs1.2.1) | (go_at_fn M.fVal; (with_reducible refine CV1.mono ?_); rintro e w4 ⟨rfl,n4,rfl⟩; have hs2:=HV w3 hs1 n4))
  go_wp2
  go_ret2
  exact ⟨rfl,zB4.trans HF2.out (fun _ hb=>.inl hb) (fun _ hb=>.inl hb) (by have:=hs2.2.2; exact this)⟩
set_option maxRecDepth 100000 in
set_option maxHeartbeats 2000000 in
theorem zTi (Q:zCJ K) (M:zBK mk of_ acc idx lower value) (q r r1 r' V:Nat) (k:Int) (h:Dd K M.tP M.t most g off mult mn mx ps ns z SP SN pd pm pp pn w) (hp:Few kind most ps) (hn:Few kind most ns) (hz:z<1000000) (hc:0<z+tot ps+tot ns)
   (q0:flt q 0=false) (q1:fgt q 4607182418800017408=false) (hr:fmul q (nf (z+tot ps+tot ns - 1))=some r) (hlt:flt r (nf (tot ns))=false) (hlz:flt r (nf (z+tot ns))=false) (hr1:fsub r (nf z)=some r1) (hr2:fsub r1 (nf (tot ns))=some r')
   (hone:fsub (nf (z+tot ps+tot ns)) 4607182418800017408=some (nf (z+tot ps+tot ns - 1))) (hk:zEY (cntB ps) (tot ps) r' k) (hV:value g off mult k=some V) :
    Calls Tryz.prog 65 #[.pointer (some ⟨pd,0,none⟩),.float .f64 q] w fun e w'=>zRA K M.tP M.t most g off mult mn mx ps ns z SP SN pd pm pp pn V w e w':=by
  have k0:(FloatKind.f64.format.order q 0 == some .lt)=false:=q0
  have k1:(FloatKind.f64.format.order q 4607182418800017408 == some .gt)=false:=q1
  have k2:(FloatKind.f64.format.order r (nf (tot ns)) == some .lt)=false:=hlt
  have k4:(FloatKind.f64.format.order r (nf (z+tot ns)) == some .lt)=false:=hlz
  have ht1:=hp.tot
  have ht2:=hn.tot
  have k3:(FloatKind.f64.format.order (nf (z+tot ps+tot ns)) 0 == some .eq)=false:=by
    have h1:=zBn (z+tot ps+tot ns) 0 (by omega) (by decide)
    rw [zAp] at h1
    rw [h1,Nat.compare_eq_gt.2 hc]; rfl
  have HC:=zHh Q h hp hn hz
  have s1:=fun w:World=>run_float_arith (P:=Tryz.prog) w .sub 29 .f64 _ _ _ hone
  have s2:=fun w:World=>run_float_arith (P:=Tryz.prog) w .mul 29 .f64 _ _ _ hr
  have s3:=fun w:World=>run_float_arith (P:=Tryz.prog) w .sub 29 .f64 _ _ _ hr1
  have s5:=fun w:World=>run_float_arith (P:=Tryz.prog) w .add 29 .f64 _ _ _ (zAz z (tot ns) (by omega))
  have s4:=fun w:World=>run_float_arith (P:=Tryz.prog) w .sub 29 .f64 _ _ _ hr2
  have CT:∀ w',Dd K M.tP M.t most g off mult mn mx ps ns z SP SN pd pm pp pn w'→Calls Tryz.prog Q.fTot #[.pointer (some ⟨pn,0,none⟩)] w' fun e w''=>e = .returned (.float .f64 (nf (tot ns)))∧zHr K most ns SN pn w' w'':=fun w' h'=>Q.cTot most ns SN pn w' h'.sn hn
  obtain ⟨f1,f2,f3,f4⟩:=hk
  have CK:∀ w',Dd K M.tP M.t most g off mult mn mx ps ns z SP SN pd pm pp pn w'→Calls Tryz.prog K.fKey #[.pointer (some ⟨pp,0,none⟩),.float .f64 r'] w'.drew fun e w''=>e = .returned (.int .i64 k)∧∃ S',K.St most ps S' pp w''∧Fr SP w'.drew w''∧∀ b,S' b→SP b∨w'.drew.heap.size≤b :=
    fun w' h'=>(Q.cKey most ps SP pp r' w'.drew (h'.drewN 1).sp hp f1 f2 f3).mono fun e w'' ⟨⟨k',he,hk'⟩,hS⟩=>⟨by rw [he,hk'.unique f4],hS⟩
  have CV:∀ w',Map5 M.t w' pm g off mult mn mx→Calls Tryz.prog M.fVal #[.pointer (some ⟨pm,0,none⟩),.int .i64 k] w' fun e w''=>zDz (.float .f64 V) w' e w'':=fun w' hm=>M.cVal pm g off mult mn mx k V w' hm hV
  have m1:=Q.mTot pn
  have e1:=Q.eTot
  have m2:=K.mKey pp
  have e2:=K.eKey
  have m3:=M.mVal pm
  have e3:=M.eVal
  obtain ⟨nn,hnn⟩:∃ y,y=nf (tot ns):=⟨_,rfl⟩
  obtain ⟨N,hN⟩:∃ y,y=nf (z+tot ps+tot ns):=⟨_,rfl⟩
  obtain ⟨N1,hN1⟩:∃ y,y=nf (z+tot ps+tot ns - 1):=⟨_,rfl⟩
  obtain ⟨zz,hzz⟩:∃ y,y=nf z:=⟨_,rfl⟩
  obtain ⟨zn,hzn⟩:∃ y,y=nf (z+tot ns):=⟨_,rfl⟩
  rw [← hnn] at k2 s4 s5 CT
  rw [← hzz] at s3 s5
  rw [← hzn] at k4 s5
  have HZZ:=Lib.hid hzz
  rw [← hN] at k3 HC s1
  rw [← hN1] at s1 s2
  clear h hp hn hz hc q0 q1 hr hlt hlz hzz hzn hr1 hr2 hone hV ht1 ht2 hnn hN hN1 f1 f2 f3 f4
  go_enter Tryz.func65,Tryz.ntmps65
  go_wp2_with fail
  refine HC.mono ?_
  clear HC
  rintro e w1 ⟨rfl,h1,hf1⟩
  obtain ⟨d0,-,d2,-⟩:=h1.cells
  have CT1:=CT w1 h1
  have H1:=Lib.hid h1
  have HF1:=Lib.hid hf1
  clear h1 hf1 CT
  go_wp2_with fail
  refine CT1.mono ?_
  clear CT1 d0 d2
  rintro e w2 ⟨rfl,hk2⟩
  have h2:=H1.out.keyN hk2.1 hk2.2 (fun _ hb=>.inl hb)
  have HF2:Hid (Fr (fun b=>SP b∨SN b) w w2):=HF1.out.trans hk2.2 (fun _ _ h=>h) (fun _ _ h=>.inr h)
  have CK2:=CK w2 h2
  have HK:∀ w',(∃ S',K.St most ps S' pp w'∧Fr SP w2.drew w'∧∀ b,S' b→SP b∨w2.drew.heap.size≤b)→(w'.cell? ⟨pd,0,none⟩=some (.iface M.tP (.pointer (some ⟨pm,0,none⟩)))∧w'.cell? ⟨pd,1,none⟩=some (.iface K.T (.pointer (some ⟨pp,0,none⟩)))∧w'.cell? ⟨pd,3,none⟩=some (.float .f64 zz))∧Map5 M.t w' pm g off mult mn mx∧zB4 K M.tP M.t most g off mult mn mx ps ns z SP SN pd pm pp pn w2 w':=fun w' ⟨S',a,b,c⟩=>by
    have hd:=(h2.drewN 1).keyP a b c
    exact ⟨⟨hd.cells.1,hd.cells.2.1,by rw [HZZ.out]; exact hd.cells.2.2.2⟩,hd.bm,S',SN,hd,((Fr.refl (fun b=>SP b∨SN b) w2).drew).trans b (fun _ _ h=>h) (fun _ _ h=>.inl h),c,fun _ hb=>.inl hb⟩
  have hs0:(w2.drew.cell? ⟨pd,0,none⟩=some (.iface M.tP (.pointer (some ⟨pm,0,none⟩)))∧w2.drew.cell? ⟨pd,1,none⟩=some (.iface K.T (.pointer (some ⟨pp,0,none⟩)))∧w2.drew.cell? ⟨pd,3,none⟩=some (.float .f64 zz))∧Map5 M.t w2.drew pm g off mult mn mx∧zB4 K M.tP M.t most g off mult mn mx ps ns z SP SN pd pm pp pn w2 w2.drew:=HK w2.drew ⟨SP,(h2.drewN 1).sp,Fr.refl _ _,fun _ hb=>.inl hb⟩
  have HV:∀ w',(w'.cell? ⟨pd,0,none⟩=some (.iface M.tP (.pointer (some ⟨pm,0,none⟩)))∧w'.cell? ⟨pd,1,none⟩=some (.iface K.T (.pointer (some ⟨pp,0,none⟩)))∧w'.cell? ⟨pd,3,none⟩=some (.float .f64 zz))∧Map5 M.t w' pm g off mult mn mx∧zB4 K M.tP M.t most g off mult mn mx ps ns z SP SN pd pm pp pn w2 w'→∀ n,(((w'.drewN n).cell? ⟨pd,0,none⟩=some (.iface M.tP (.pointer (some ⟨pm,0,none⟩)))∧(w'.drewN n).cell? ⟨pd,1,none⟩=some (.iface K.T (.pointer (some ⟨pp,0,none⟩)))∧(w'.drewN n).cell? ⟨pd,3,none⟩=some (.float .f64 zz))∧Map5 M.t (w'.drewN n) pm g off mult mn mx∧zB4 K M.tP M.t most g off mult mn mx ps ns z SP SN pd pm pp pn w2 (w'.drewN n)):=fun w' h' n=>by
    obtain ⟨a,b,SP',SN',c,d,e,f⟩:=h'
    exact ⟨a,b,SP',SN',c.drewN n,d.drewN n,e,f⟩
  have c0:=h2.cells.1
  have c1:=h2.cells.2.1
  have c3:=h2.cells.2.2.2
  rw [← HZZ.out] at c3
  have H2:=Lib.hid h2
  clear hk2 h2 CK
  go_wp2_with fail
  go_region_held3 (fun w'=>(w'.cell? ⟨pd,0,none⟩=some (.iface M.tP (.pointer (some ⟨pm,0,none⟩)))∧w'.cell? ⟨pd,1,none⟩=some (.iface K.T (.pointer (some ⟨pp,0,none⟩)))∧w'.cell? ⟨pd,3,none⟩=some (.float .f64 zz))∧Map5 M.t w' pm g off mult mn mx∧zB4 K M.tP M.t most g off mult mn mx ps ns z SP SN pd pm pp pn w2 w')
    (first | (with_reducible exact hs0) | (with_reducible exact hs1) | (with_reducible exact hs2))
    (first | (go_at_fn K.fKey; (with_reducible refine CK2.mono ?_); rintro e w3 ⟨rfl,hk3⟩; have hs1:=HK w3 hk3; have CV1:=CV w3 hs1.2.1) | (go_at_fn M.fVal; (with_reducible refine CV1.mono ?_); rintro e w4 ⟨rfl,n4,rfl⟩; have hs2:=HV w3 hs1 n4))
  go_wp2
  go_ret2
  exact ⟨rfl,zB4.trans HF2.out (fun _ hb=>.inl hb) (fun _ hb=>.inl hb) (by have:=hs2.2.2; exact this)⟩
set_option maxRecDepth 100000 in
set_option maxHeartbeats 2000000 in
theorem zTh (Q:zCJ K) {tP t:TypeId} (q r:Nat) (h:Dd K tP t most g off mult mn mx ps ns z SP SN pd pm pp pn w) (hp:Few kind most ps) (hn:Few kind most ns) (hz:z<1000000) (hc:0<z+tot ps+tot ns)
   (q0:flt q 0=false) (q1:fgt q 4607182418800017408=false) (hr:fmul q (nf (z+tot ps+tot ns - 1))=some r) (hlt:flt r (nf (tot ns))=false) (hlz:flt r (nf (z+tot ns))=true)
   (hone:fsub (nf (z+tot ps+tot ns)) 4607182418800017408=some (nf (z+tot ps+tot ns - 1))) :
    Calls Tryz.prog 65 #[.pointer (some ⟨pd,0,none⟩),.float .f64 q] w fun e w'=>zRA K tP t most g off mult mn mx ps ns z SP SN pd pm pp pn 0 w e w':=by
  have k0:(FloatKind.f64.format.order q 0 == some .lt)=false:=q0
  have k1:(FloatKind.f64.format.order q 4607182418800017408 == some .gt)=false:=q1
  have k2:(FloatKind.f64.format.order r (nf (tot ns)) == some .lt)=false:=hlt
  have k4:(FloatKind.f64.format.order r (nf (z+tot ns)) == some .lt)=true:=hlz
  have ht1:=hp.tot
  have ht2:=hn.tot
  have k3:(FloatKind.f64.format.order (nf (z+tot ps+tot ns)) 0 == some .eq)=false:=by
    have h1:=zBn (z+tot ps+tot ns) 0 (by omega) (by decide)
    rw [zAp] at h1
    rw [h1,Nat.compare_eq_gt.2 hc]; rfl
  have HC:=zHh Q h hp hn hz
  have s1:=fun w:World=>run_float_arith (P:=Tryz.prog) w .sub 29 .f64 _ _ _ hone
  have s2:=fun w:World=>run_float_arith (P:=Tryz.prog) w .mul 29 .f64 _ _ _ hr
  have s5:=fun w:World=>run_float_arith (P:=Tryz.prog) w .add 29 .f64 _ _ _ (zAz z (tot ns) (by omega))
  have CT:∀ w',Dd K tP t most g off mult mn mx ps ns z SP SN pd pm pp pn w'→Calls Tryz.prog Q.fTot #[.pointer (some ⟨pn,0,none⟩)] w' fun e w''=>e = .returned (.float .f64 (nf (tot ns)))∧zHr K most ns SN pn w' w'':=fun w' h'=>Q.cTot most ns SN pn w' h'.sn hn
  have m1:=Q.mTot pn
  have e1:=Q.eTot
  obtain ⟨nn,hnn⟩:∃ y,y=nf (tot ns):=⟨_,rfl⟩
  obtain ⟨N,hN⟩:∃ y,y=nf (z+tot ps+tot ns):=⟨_,rfl⟩
  obtain ⟨N1,hN1⟩:∃ y,y=nf (z+tot ps+tot ns - 1):=⟨_,rfl⟩
  obtain ⟨zz,hzz⟩:∃ y,y=nf z:=⟨_,rfl⟩
  obtain ⟨zn,hzn⟩:∃ y,y=nf (z+tot ns):=⟨_,rfl⟩
  rw [← hnn] at k2 s5 CT
  rw [← hzz] at s5
  rw [← hzn] at k4 s5
  have HZZ:=Lib.hid hzz
  rw [← hN] at k3 HC s1
  rw [← hN1] at s1 s2
  clear h hp hn hz hc q0 q1 hr hlt hlz hzz hzn hone ht1 ht2 hnn hN hN1
  go_enter Tryz.func65,Tryz.ntmps65
  go_wp2_with fail
  refine HC.mono ?_
  clear HC
  rintro e w1 ⟨rfl,h1,hf1⟩
  obtain ⟨d0,-,d2,-⟩:=h1.cells
  have CT1:=CT w1 h1
  have H1:=Lib.hid h1
  have HF1:=Lib.hid hf1
  clear h1 hf1 CT
  go_wp2_with fail
  refine CT1.mono ?_
  clear CT1 d0 d2
  rintro e w2 ⟨rfl,hk2⟩
  have h2:=H1.out.keyN hk2.1 hk2.2 (fun _ hb=>.inl hb)
  have HF2:Hid (Fr (fun b=>SP b∨SN b) w w2):=HF1.out.trans hk2.2 (fun _ _ h=>h) (fun _ _ h=>.inr h)
  have c3:=h2.cells.2.2.2
  rw [← HZZ.out] at c3
  have H2:=Lib.hid h2
  clear hk2 h2
  go_wp2_with fail
  go_ret2
  exact ⟨rfl,zB4.trans HF2.out (fun _ hb=>.inl hb) (fun _ hb=>.inl hb) (zB4.refl H2.out)⟩
end
end Go.Proofs.YtllaekopaglolaaGreat
end
/-
  The values at some quantiles,of a sketch without its summary.
-/
section
namespace Go.Proofs.YtllaekopaglolaaGreat
open Go.RowKit
def LieN (w:World) (ao:Option Addr) (qs:List Nat):Prop :=
  qs=[]∨∃ g off,ao=some ⟨g,off,none⟩∧∀ i,(h:i<qs.length)→w.cell? ⟨g,off+i,none⟩=some (.float .f64 qs[i])
def FRow (w:World) (g n:Nat) (f:Nat→Nat):Prop:=n=0∨∃ cs:Array Value,w.heap[g]?=some (.cells cs 29 (0,0))∧cs.size=n∧∀ i,i<n→cs[i]?=some (.float .f64 (f i))
theorem FRow.cell {w:World} {g n:Nat} {f:Nat→Nat} (h:FRow w g n f) {i:Nat} (hi:i<n):w.cell? ⟨g,i,none⟩=some (.float .f64 (f i))∧w.frozen? ⟨g,i,none⟩=false:=by
  rcases h with h | ⟨cs,h1,h2,h3⟩
  · omega
  · exact ⟨(cell_of_row _ _ i _ _ _ h1).trans (h3 i hi),frozen_of_row w g i _ _ h1⟩
theorem FRow.set {w:World} {g n:Nat} {f:Nat→Nat} (h:FRow w g n f) (i x:Nat):FRow (w.setCell ⟨g,i,none⟩ (.float .f64 x)) g n (fun j=>if j=i then x else f j):=by
  rcases h with h | ⟨cs,h1,h2,h3⟩
  · exact .inl h
  · refine .inr ⟨_,heap_setCell_same w g i _ _ _ h1,by simpa using h2,fun j hj=>?_⟩
    rw [Array.getElem?_setIfInBounds]
    by_cases hji:i=j
    · subst hji
      rw [if_pos rfl,if_pos (by omega)]
      show some _=some (Value.float .f64 (if i=i then x else f i))
      rw [if_pos rfl]
    · rw [if_neg hji]
      show cs[j]?=some (Value.float .f64 (if j=i then x else f j))
      rw [if_neg (fun e:j=i=>hji (Eq.symm e))]
      exact h3 j hj
theorem FRow.fr {w w':World} {g n:Nat} {f:Nat→Nat} {S:Nat→Prop} (h:FRow w g n f) (hf:Fr S w w') (hg:¬ S g):FRow w' g n f:=by
  rcases h with h | ⟨cs,h1,h2,h3⟩
  · exact .inl h
  · exact .inr ⟨cs,hf.heap h1 hg,h2,h3⟩
theorem FRow.ext {w:World} {g n:Nat} {f f':Nat→Nat} (h:FRow w g n f) (he:∀ i,i<n→f i=f' i):FRow w g n f':=by
  rcases h with h | ⟨cs,h1,h2,h3⟩
  · exact .inl h
  · exact .inr ⟨cs,h1,h2,fun i hi=>by rw [h3 i hi,he i hi]⟩
theorem zSj {w:World} {g n:Nat} (h:w.ownsRow 0 29 1 (.slice (some ⟨g,0,none⟩) n n) n (madeCells (Value.float .f64 0).cells (n*1)).toList):FRow w g n (fun _=>0):=by
  by_cases h0:n=0
  · exact .inl h0
  right
  have e:(madeCells (Value.float .f64 0).cells (n*1)).toList=List.replicate (n*1) (.float .f64 0):=toList_madeCells_one _ _
  rw [e] at h
  rcases h.2 with ⟨h1,_⟩ | ⟨g',cap,cur,h1,_,hg,hc,hm,hs,ht⟩
  · cases h1
  · cases h1
    refine ⟨cur,hg,by omega,fun i hi=>?_⟩
    have hc:=h.cells (g:=g) rfl i (.float .f64 0) (by rw [List.getElem?_replicate,if_pos (by omega)])
    have hadd:(⟨g,0,none⟩:Addr).add i=⟨g,i,none⟩:=by unfold Addr.add; split <;> simp_all
    rw [hadd,cell_of_row _ _ i _ _ _ hg] at hc
    exact hc
section
variable {kind:Int} {K:zAD kind} {tP t:TypeId} {most:Int} {g off mult mn mx:Nat} {ps ns:Bins} {z:Nat} {SP SN:Nat→Prop} {pd pm pp pn:Nat} {w w':World}
theorem Dd.fr {S:Nat→Prop} (h:Dd K tP t most g off mult mn mx ps ns z SP SN pd pm pp pn w) (hf:Fr S w w') (hn:∀ b,b=pd∨b=pm∨SP b∨SN b→¬ S b):Dd K tP t most g off mult mn mx ps ns z SP SN pd pm pp pn w' :=
  ⟨hf.heap h.bd (hn pd (.inl rfl)),hf.heap h.bm (hn pm (.inr (.inl rfl))),K.fr most _ SP pp S w w' h.sp hf (fun b hb=>hn b (.inr (.inr (.inl hb)))),K.fr most _ SN pn S w w' h.sn hf (fun b hb=>hn b (.inr (.inr (.inr hb)))),h.dj,h.own⟩
theorem Dd.lt (h:Dd K tP t most g off mult mn mx ps ns z SP SN pd pm pp pn w):∀ b,b=pd∨b=pm∨SP b∨SN b→b<w.heap.size:=fun b hb=>by
  rcases hb with h1 | h1 | h1 | h1
  · rw [h1]; exact lt_of_block h.bd
  · rw [h1]; exact lt_of_block h.bm
  · exact K.lt most _ SP pp w h.sp b h1
  · exact K.lt most _ SN pn w h.sn b h1
def zWK (K:zAD kind) (tP t:TypeId) (most:Int) (g off mult mn mx:Nat) (ps ns:Bins) (z:Nat) (SP SN:Nat→Prop) (pd pm pp pn gv:Nat) (outs:List Nat) (w1 wr:World) (i:Value):Prop :=
  ∃ (k:Nat) (SP' SN':Nat→Prop),k≤outs.length∧i = .int .i64 (k:Int)∧Dd K tP t most g off mult mn mx ps ns z SP' SN' pd pm pp pn wr∧(∀ b,SP' b→SP b∨w1.heap.size≤b)∧(∀ b,SN' b→SN b∨w1.heap.size≤b) ∧
    FRow wr gv outs.length (fun i=>if i<k then outs.getD i 0 else 0)∧Fr (fun b=>b=gv∨SP b∨SN b) w1 wr
def zXM (K:zAD kind) (tP t:TypeId) (most:Int) (g off mult mn mx:Nat) (ps ns:Bins) (z:Nat) (SP SN:Nat→Prop) (pd pm pp pn:Nat) (outs:List Nat) (w:World) (e:Ending) (w':World):Prop :=
  ∃ gv SP' SN',e = .returned (.tuple #[.slice (some ⟨gv,0,none⟩) outs.length outs.length,.nilIface])∧w.heap.size≤gv∧¬ SP' gv∧¬ SN' gv∧gv≠pd∧gv≠pm∧gv<w'.heap.size∧FRow w' gv outs.length (fun i=>outs.getD i 0) ∧
    Dd K tP t most g off mult mn mx ps ns z SP' SN' pd pm pp pn w'∧Fr (fun b=>SP b∨SN b) w w'∧(∀ b,SP' b→SP b∨w.heap.size≤b)∧∀ b,SN' b→SN b∨w.heap.size≤b
set_option maxRecDepth 100000 in
set_option maxHeartbeats 2000000 in
theorem zTg (ao:Option Addr) (cp:Nat) (qs outs:List Nat) (h:Dd K tP t most g off mult mn mx ps ns z SP SN pd pm pp pn w) (hq:LieN w ao qs) (hao:∀ gq o,ao=some ⟨gq,o,none⟩→¬ SP gq∧¬ SN gq) (hn:qs.length≤1000000) (hl:outs.length=qs.length)
   (HV:∀ k,(hk:k<qs.length)→∀ SP' SN' w',Dd K tP t most g off mult mn mx ps ns z SP' SN' pd pm pp pn w'→Calls Tryz.prog 65 #[.pointer (some ⟨pd,0,none⟩),.float .f64 qs[k]] w' fun e w''=>zRA K tP t most g off mult mn mx ps ns z SP' SN' pd pm pp pn (outs.getD k 0) w' e w'') :
    Calls Tryz.prog 44 #[.pointer (some ⟨pd,0,none⟩),.slice ao qs.length cp] w fun e w'=>zXM K tP t most g off mult mn mx ps ns z SP SN pd pm pp pn outs w e w':=by
  obtain ⟨i0,hi,hz0,hz1,hz2⟩:=info_parts Tryz.infoF64
  have HD:=Lib.hid h
  have HQ:=Lib.hid hq
  have HA:=Lib.hid hao
  have HVV:=Lib.hid HV
  clear h hq hao HV
  go_enter Tryz.func44,Tryz.ntmps44
  go_wp2_with (at_make; refine wpList_make_full _ rfl _ _ 23 rfl 0 29 i0 (.float .f64 0) 1 Tryz.underlying23 hi hz0 hz1 .i64 .i64 _ _ qs.length rfl rfl rfl rfl (by rw [hz2]; omega) (by unfold maxLen; omega) (Nat.zero_le _) ?_; intro w1 hown hgr; have HO:=Lib.hid hown; have HG:=Lib.hid hgr; clear hown hgr)
  have hgv:Hid (∀ b,b=pd∨b=pm∨SP b∨SN b→b≠w.heap.size):=fun b hb e=>by have:=HD.out.lt b hb; omega
  have hfw:Hid (Fr (fun _=>False) w w1):=⟨HG.out.os,HG.out.tape,HG.out.output,HG.out.size,fun k hk _=>HG.out.block k hk (by simp)⟩
  have hgl:Hid (w.heap.size<w1.heap.size):=by
    rcases HO.out.2 with ⟨h1,_⟩ | ⟨g',cap,cur,h1,_,hg,_⟩
    · cases h1
    · cases h1; exact lt_of_block hg
  have HD1:Hid (Dd K tP t most g off mult mn mx ps ns z SP SN pd pm pp pn w1):=HD.out.fr hfw.out (fun _ _ h=>h)
  have HR1:Hid (FRow w1 w.heap.size qs.length (fun _=>0)):=zSj HO.out
  have HQ1:Hid (LieN w1 ao qs):=by
    rcases HQ.out with h0 | ⟨gq,oq,e,hc⟩
    · exact .inl h0
    · exact .inr ⟨gq,oq,e,fun i hi=>hfw.out.cell (hc i hi) (fun h=>h)⟩
  have HQL:Hid (∀ gq o,ao=some ⟨gq,o,none⟩→qs≠[]→gq≠w.heap.size):=by
    intro gq o e hne e2
    rcases HQ.out with h0 | ⟨gq',oq,e',hc⟩
    · exact hne h0
    · rw [e'] at e; cases e
      have hp:0<qs.length:=List.length_pos_iff.2 hne
      have:=World.block_lt_of_cell? w _ (hc 0 hp)
      have h9:gq<w.heap.size:=this
      omega
  clear HG HO
  go_loopw [16] (fun i wr=>zWK K tP t most g off mult mn mx ps ns z SP SN pd pm pp pn w.heap.size outs w1 wr i) (fun i _=>qs.length - (intOf i).toNat)
  case atStart=>exact ⟨0,SP,SN,Nat.zero_le _,rfl,HD1.out,fun _ hb=>.inl hb,fun _ hb=>.inl hb,by rw [hl]; exact HR1.out.ext (fun i hi=>by simp),Fr.refl _ _⟩
  case round =>
    obtain ⟨k,SP',SN',hk,rfl,hd,hS1,hS2,hrow,hfr⟩:=hrel
    rw [hl] at hk
    by_cases hlt:k<qs.length
    · rcases HQ1.out with h0 | ⟨gq,oq,rfl,hcell⟩
      · rw [h0] at hlt; exact absurd hlt (Nat.not_lt_zero _)
      have hne:qs≠[]:=fun e=>by rw [e] at hlt; exact absurd hlt (Nat.not_lt_zero _)
      obtain ⟨na,nb⟩:=HA.out gq oq rfl
      have c0:=hfr.cell (hcell k hlt) (fun h=>h.elim (HQL.out gq oq rfl hne) (fun h=>h.elim na nb))
      have hltI:(k:Int)<((qs.length:Nat):Int):=by omega
      have hV:=HVV.out k hlt SP' SN' wr hd
      have hgS:¬ SP' w.heap.size∧¬ SN' w.heap.size:=⟨fun h=>(hS1 _ h).elim (fun h=>hgv.out _ (.inr (.inr (.inl h))) rfl) (fun h=>by have:=hgl.out; omega),fun h=>(hS2 _ h).elim (fun h=>hgv.out _ (.inr (.inr (.inr h))) rfl) (fun h=>by have:=hgl.out; omega)⟩
      obtain ⟨x,hx⟩:∃ x,x=qs[k]:=⟨_,rfl⟩
      obtain ⟨o,ho⟩:∃ o,o=outs.getD k 0:=⟨_,rfl⟩
      rw [← hx] at c0 hV
      rw [← ho] at hV
      have HGS:=Lib.hid hgS
      have HS1:=Lib.hid hS1
      have HS2:=Lib.hid hS2
      have HROW:=Lib.hid hrow
      have HFR:=Lib.hid hfr
      have HO:=Lib.hid ho
      have hkw:Hid (w1.heap.size≤wr.heap.size):=hfr.size
      have hgw:Hid (w.heap.size<wr.heap.size):=by have:=hkw.out; have:=hgl.out; show _<_; omega
      clear hx ho hcell hne na nb hd hS1 hS2 hrow hfr hgS
      go_wp2_with (go_at_call 65; (with_reducible refine hV.mono ?_); rintro e w3 ⟨rfl,SP2,SN2,k1,k2,k3,k4⟩; have hr3:FRow w3 w.heap.size outs.length (fun i=>if i<k then outs.getD i 0 else 0):=HROW.out.fr k2 (fun h=>h.elim HGS.out.1 HGS.out.2); have f3:=(hr3.cell (i:=k) (by omega)).2; have c3:=(hr3.cell (i:=k) (by omega)).1; have HR3:=Lib.hid hr3; have K1:=Lib.hid k1; have K2:=Lib.hid k2; have K3:=Lib.hid k3; have K4:=Lib.hid k4; clear k1 k2 k3 k4 hr3 hV)
      go_roundw
      case rel =>
        have hz3:=K2.out.size
        have hgS2:¬ SP2 w.heap.size∧¬ SN2 w.heap.size:=⟨fun h=>(K3.out _ h).elim HGS.out.1 (fun h=>by have:=hgw.out; omega),fun h=>(K4.out _ h).elim HGS.out.2 (fun h=>by have:=hgw.out; omega)⟩
        have hset:=HR3.out.set k o
        have hfs:Fr (fun b=>b=w.heap.size) w3 (w3.setCell ⟨w.heap.size,k,none⟩ (.float .f64 o)):=(show Fr (fun b=>b=w.heap.size) w3 w3 from Fr.refl _ _).setCell (p:=⟨w.heap.size,k,none⟩) (fun _=>rfl) _
        refine ⟨k+1,SP2,SN2,by omega,by go_num,K1.out.fr hfs (fun b hb e=>?_),fun b hb=>?_,fun b hb=>?_,hset.ext (fun i hi=>?_),(HFR.out.trans K2.out (fun _ _ h=>h) (fun i hi h=>?_)).trans hfs (fun _ _ h=>h) (fun _ _ h=>.inl h)⟩
        · rcases hb with h | h | h | h
          · exact hgv.out b (.inl h) e
          · exact hgv.out b (.inr (.inl h)) e
          · rw [e] at h; exact hgS2.1 h
          · rw [e] at h; exact hgS2.2 h
        · rcases K3.out b hb with h | h
          · exact HS1.out b h
          · right; have:=hkw.out; omega
        · rcases K4.out b hb with h | h
          · exact HS2.out b h
          · right; have:=hkw.out; omega
        · by_cases e:i=k
          · rw [if_pos e,if_pos (by omega),HO.out,e]
          · rw [if_neg e]
            by_cases e2:i<k
            · rw [if_pos e2,if_pos (by omega)]
            · rw [if_neg e2,if_neg (by omega)]
        · rcases h with h | h
          · rcases HS1.out i h with h | h
            · exact .inr (.inl h)
            · omega
          · rcases HS2.out i h with h | h
            · exact .inr (.inr h)
            · omega
      case measure=>simp [intOf]; omega
    · obtain rfl:k=qs.length:=by omega
      have HDD:=Lib.hid hd
      have HS1:=Lib.hid hS1
      have HS2:=Lib.hid hS2
      have HROW:=Lib.hid hrow
      have HFR:=Lib.hid hfr
      clear hlt hd hS1 hS2 hrow hfr
      go_wp2
      go_ret2
      have hz:=hgl.out
      have hz2:=HFR.out.size
      have hz3:=hfw.out.size
      refine ⟨w.heap.size,SP',SN',by rw [hl]; rfl,Nat.le_refl _,fun h=>(HS1.out _ h).elim (fun h=>hgv.out _ (.inr (.inr (.inl h))) rfl) (fun h=>by omega),fun h=>(HS2.out _ h).elim (fun h=>hgv.out _ (.inr (.inr (.inr h))) rfl) (fun h=>by omega),fun e=>hgv.out pd (.inl rfl) (Eq.symm e),fun e=>hgv.out pm (.inr (.inl rfl)) (Eq.symm e),by omega,HROW.out.ext (fun i hi=>by rw [if_pos (by omega)]),HDD.out,hfw.out.trans HFR.out (fun _ _ h=>h.elim) (fun i hi h=>?_),fun b hb=>?_,fun b hb=>?_⟩
      · rcases h with h | h
        · omega
        · exact h
      · rcases HS1.out b hb with h | h
        · exact .inl h
        · right; omega
      · rcases HS2.out b hb with h | h
        · exact .inl h
        · right; omega
end
end Go.Proofs.YtllaekopaglolaaGreat
end
/-
  laws.fine: whether a mapping,an accuracy,a store and quantiles are ones that are compared.
-/
section
namespace Go.Proofs.YtllaekopaglolaaGreat
open Go.RowKit Ieee
def okQ (q:Nat):Bool:=fge q 0&&fle q 4607182418800017408
structure zXV (mk pc st:Int) (qs:List Nat):Prop where
  k:0≤mk∧mk≤2
  p:1≤pc∧pc≤50
  s:0≤st∧st≤2
  l:qs.length≤20
  q:qs.all okQ=true
def zWW (qs:List Nat) (w wr:World) (i:Value):Prop :=
  ∃ k,k≤qs.length∧i = .int .i64 (k:Int)∧wr=w∧Hid ((qs.take k).all okQ=true)
def zTd (mk pc st:Int) (qs:List Nat) (w:World) (e:Ending) (w':World):Prop:=(∃ b:Bool,e = .returned (.bool b)∧(b=true→zXV mk pc st qs))∧w=w'
set_option maxRecDepth 100000 in
set_option maxHeartbeats 1600000 in
theorem zUp (mk pc st:Int) (ao:Option Addr) (cp:Nat) (qs:List Nat) (w:World) (hl:LieN w ao qs) (hn:qs.length≤2147483647) :
    Calls Tryz.prog 6 #[.int .i64 mk,.int .i64 pc,.int .i64 st,.slice ao qs.length cp] w fun e w'=>zTd mk pc st qs w e w':=by
  have HL:=Lib.hid hl; clear hl
  go_enter Tryz.func6,Tryz.ntmps6
  go_wp2
  go_loopw [13] (fun i wr=>zWW qs w wr i) (fun i _=>qs.length - (intOf i).toNat)
  case atStart=>exact ⟨0,by omega,rfl,rfl,rfl⟩
  case round =>
    obtain ⟨k,hk,rfl,rfl,HK⟩:=hrel
    by_cases hlt:k<qs.length
    · rcases HL.out with h0 | ⟨g,off,rfl,hcell⟩
      · have:=congrArg List.length h0; rw [List.length_nil] at this; omega
      have c0:=hcell k hlt
      have hgood:okQ qs[k]=true→(qs.take (k+1)).all okQ=true:=by
        intro h
        rw [List.take_succ_eq_append_getElem hlt,List.all_append,HK.out]
        simp [h]
      generalize qs[k]=q at c0 hgood
      have HG:=Lib.hid hgood
      clear hgood hcell HK
      cases h1:(FloatKind.f64.format.order q 0 == some .gt||FloatKind.f64.format.order q 0 == some .eq)
      · clear HG
        go_wp2
        go_ret
        exact ⟨⟨false,rfl,fun h=>by cases h⟩,rfl⟩
      · cases h2:(FloatKind.f64.format.order q 4607182418800017408 == some .lt||FloatKind.f64.format.order q 4607182418800017408 == some .eq)
        · clear HG
          go_wp2
          go_ret
          exact ⟨⟨false,rfl,fun h=>by cases h⟩,rfl⟩
        · have hr:=HG.out (by unfold okQ fge fle; rw [h1,h2]; rfl)
          have HR:=Lib.hid hr; clear hr HG
          go_wp2
          go_roundw
          case rel=>exact ⟨k+1,by omega,by go_num,rfl,HR.out⟩
          case measure=>simp [intOf]; omega
    · obtain rfl:k=qs.length:=by omega
      have hall:=HK.out
      rw [List.take_length] at hall
      have HA:=Lib.hid hall
      clear HK hall hlt
      by_cases c1:0≤mk
      · by_cases c2:mk≤2
        · by_cases c3:1≤pc
          · by_cases c4:pc≤50
            · by_cases c5:0≤st
              · by_cases c6:st≤2
                · go_wp2
                  go_ret
                  exact ⟨⟨_,rfl,fun h=>⟨⟨c1,c2⟩,⟨c3,c4⟩,⟨c5,c6⟩,by have:=of_decide_eq_true h; omega,HA.out⟩⟩,rfl⟩
                · have c':=Int.not_le.1 c6; clear c6
                  go_wp2
                  go_ret
                  exact ⟨⟨false,rfl,fun h=>by cases h⟩,rfl⟩
              · have c':=Int.not_le.1 c5; clear c5
                go_wp2
                go_ret
                exact ⟨⟨false,rfl,fun h=>by cases h⟩,rfl⟩
            · have c':=Int.not_le.1 c4; clear c4
              go_wp2
              go_ret
              exact ⟨⟨false,rfl,fun h=>by cases h⟩,rfl⟩
          · have c':=Int.not_le.1 c3; clear c3
            go_wp2
            go_ret
            exact ⟨⟨false,rfl,fun h=>by cases h⟩,rfl⟩
        · have c':=Int.not_le.1 c2; clear c2
          go_wp2
          go_ret
          exact ⟨⟨false,rfl,fun h=>by cases h⟩,rfl⟩
      · have c':=Int.not_le.1 c1; clear c1
        go_wp2
        go_ret
        exact ⟨⟨false,rfl,fun h=>by cases h⟩,rfl⟩
end Go.Proofs.YtllaekopaglolaaGreat
end
