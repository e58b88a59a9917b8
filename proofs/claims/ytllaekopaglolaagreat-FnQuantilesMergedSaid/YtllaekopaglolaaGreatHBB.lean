/-
  The store with pages: KeyAtRank.
-/
import Derived.Test.YtllaekopaglolaaGreatHAX
import Derived.Test.YtllaekopaglolaaGreatHAS
import Derived.Test.YtllaekopaglolaaGreatHBA
section
namespace Go.Proofs.YtllaekopaglolaaGreat
open Go.RowKit
variable {tg:Int}
set_option maxRecDepth 100000 in
theorem zT5 (y r bx:Nat) (w:World) (h:w.cell? ⟨bx,0,none⟩=some (.float .f64 r)) :
    Calls Tryz.prog 270 #[.float .f64 y,.pointer (some ⟨bx,0,none⟩)] w fun e w'=>e = .returned (.bool (fgt2 y r))∧w=w':=by
  unfold fgt2
  generalize hB:(FloatKind.f64.format.order y r == some .gt)=B
  go_enter Tryz.func270,Tryz.ntmps270
  go_wp2
  go_ret
  exact ⟨rfl,rfl⟩
def zXu (G:Int→Nat) (bs:List Int) (r:Nat) (mp:Int) (n:Nat) (w wr:World) (v b i:Value):Prop :=
  ∃ (j bp:Nat),j≤n∧i = .int .i64 (j:Int)∧b = .int .i64 (bp:Int)∧v = .float .f64 (nf (cum G (32*(mp+(j:Int)))+bp))∧Hid (Cur G bs r (32*(mp+(j:Int))) bp)∧wr=w
def zXt (G:Int→Nat) (bs:List Int) (r:Nat) (x:Int) (w wr:World) (v b i:Value):Prop :=
  ∃ (k bp:Nat),k≤32∧i = .int .i64 (k:Int)∧b = .int .i64 (bp:Int)∧v = .float .f64 (nf (cum G (32*x+(k:Int))+bp))∧Hid (Cur G bs r (32*x+(k:Int)) bp)∧wr=w
def zXR (G:Int→Nat) (bs:List Int) (r:Nat) (x:Int) (w wr:World) (v b:Value):Prop :=
  ∃ (bp:Nat),b = .int .i64 (bp:Int)∧v = .float .f64 (nf (cum G x+bp))∧Hid (Cur G bs r x bp)∧wr=w
def zJC (tg:Int) (G:Int→Nat) (bs:List Int) (q:Int→Option (Nat × Nat)) (mp:Int) (n p:Nat) (bufv pgs:Value) (r:Nat) (val:Int→Value) (w:World) (e:Ending) (w':World):Prop :=
  ∃ bs' K,e = .returned (val K)∧zB5 (both G bs) r K∧bs'.Perm bs∧zAH tg G bs' q mp n p bufv pgs w'∧Fr (fun k=>bufv.ownBlock=some k) w w'
set_option maxRecDepth 100000 in
set_option maxHeartbeats 1000000 in
theorem zJ4 (G:Int→Nat) (bs0:List Int) (q:Int→Option (Nat × Nat)) (mp:Int) (n p:Nat) (bufv pgs:Value) (r bx:Nat) (w:World) (h0:zAH tg G bs0 q mp n p bufv pgs w) (hbx:w.heap[bx]?=some (.cells #[.float .f64 r] 29 (0,0)))
   (hI0:InI bs0) (hz:∀ i,i < -10000∨10000<i→G i=0) (hT0:tot2 G+bs0.length<1000000000) (hr1:fgt2 (nf 0) r=false) (hr20:fgt2 (nf (tot2 G+bs0.length)) r=true) :
    Calls Tryz.prog 269 #[.pointer (some ⟨p,0,none⟩),.func (.func 270) #[] #[.pointer (some ⟨bx,0,none⟩)]] w fun e w'=>zJC tg G bs0 q mp n p bufv pgs r (fun K=>.tuple #[.int .i64 K,.nilIface]) w e w':=by
  have hsort:=zGu G bs0 q mp n p bufv pgs w h0 (by omega)
  have HBT:Hid (∀ k,bufv.ownBlock=some k→k≠bx):=fun k hk=>by
    obtain ⟨_,hc⟩:=zAW h0.core.buf hk; exact zAr hc hbx (by decide)
  have HBX:=Lib.hid hbx
  have HI0:=Lib.hid hI0
  have HZ0:=Lib.hid hz
  have HT0:=Lib.hid hT0
  have HR10:=Lib.hid hr1
  have HR20:=Lib.hid hr20
  clear h0 hbx hI0 hz hT0 hr1 hr20
  go_enter Tryz.func269,Tryz.ntmps269
  go_wp2_with fail
  refine hsort.mono ?_
  clear hsort
  rintro e w1 ⟨bs,rfl,hperm,hs,h,hfr⟩
  have hbx1:w1.cell? ⟨bx,0,none⟩=some (.float .f64 r):=by
    refine cell_of_row _ _ 0 _ _ _ (hfr.heap HBX.out (fun e=>?_))
    exact HBT.out bx e rfl
  have hI:InI bs:=fun b hb=>HI0.out b (hperm.mem_iff.1 hb)
  have hz:=HZ0.out
  have hT:tot2 G+bs.length<1000000000:=by rw [hperm.length_eq]; exact HT0.out
  have hr1:=HR10.out
  have hr2:fgt2 (nf (tot2 G+bs.length)) r=true:=by rw [hperm.length_eq]; exact HR20.out
  have HPERM:=Lib.hid hperm
  have HFR:=Lib.hid hfr
  have HBOTH:Hid (both G bs=both G bs0):=by
    show (fun i=>G i+cntI bs i)=fun i=>G i+cntI bs0 i
    rw [zFc hperm]
  clear hperm hfr HBX HI0 HZ0 HT0 HR10 HR20 HBT
  obtain ⟨ao,n1,cb,rfl⟩:=zAR h.core.buf
  obtain rfl:=zAo h.core.buf
  obtain ⟨aq,n2,cq,hpgs⟩:=zAR h.core.row
  have hnq:n2=n:=by have h2:=h.core.row; rw [hpgs] at h2; exact zAo h2
  subst hnq
  obtain ⟨n,hn2⟩:∃ n,n=n2:=⟨_,rfl⟩
  subst hn2
  obtain ⟨d0,d1,d2,d3,d4,d5⟩:=h.core.fields.cells
  rw [hpgs] at d2
  have HPR:=fun y=>zT5 y r bx w1 hbx1
  have HIX:=fun (k:Nat) (h1:(0:Int)≤(k:Int)) h2 x hx1 hx2=>zSe p x (k:Int) w1 d4 hx1 hx2 h1 h2
  have hcum:∀ y,cum G y≤tot2 G:=fun y=>by
    by_cases c:y≤10001
    · exact zCR G y c
    · rw [zBv,zBM G 10001 y (by omega) (fun i h1 _=>hz i (.inr (by omega)))]; omega
  have HBC:Hid (0<bs.length→∃ g,ao=some ⟨g,0,none⟩∧∀ k,(hk:k<bs.length)→w1.cell? ⟨g,k,none⟩=some (.int .i64 bs[k])):=fun h0=>zHk h.core.buf h0
  have HBD:Hid ((n=0∧mp=9223372036854775807)∨(0<n ∧ -330≤mp∧mp+(n:Int)≤330)):=by rcases h.bd with ⟨h1,h2,_⟩ | h2; exact .inl ⟨h1,h2⟩; exact .inr h2
  have hnb:n<1000000000:=by rcases h.bd with ⟨h1,h2,_⟩ | h2 <;> omega
  have hbl:bs.length<1000000000:=by omega
  have HST:Hid (∀ i j,(hi:i<bs.length)→(hj:j<bs.length)→i≤j→bs[i]≤bs[j]):=fun i j hi hj hij=>by
    rcases Nat.lt_or_eq_of_le hij with h | h
    · exact List.pairwise_iff_getElem.1 hs i j hi hj h
    · subst h; exact Int.le_refl _
  have HH:=Lib.hid h
  have HP:=Lib.hid hpgs
  have HZ:=Lib.hid hz
  have HT:=Lib.hid hT
  have HS:=Lib.hid hs
  have HI:=Lib.hid hI
  have HC:=Lib.hid hcum
  have HX:=Lib.hid HIX
  have HR1:=Lib.hid hr1
  have HR2:=Lib.hid hr2
  clear h hz hT hI hcum hpgs HIX hr1 hr2 hs hbx1
  go_wp2
  go_loopw [6,7,20] (fun v b i wr=>zXu G bs r mp n w1 wr v b i) (fun _ _ i _=>n - (intOf i).toNat)
  case atStart =>
    have hc0:cum G (32*(mp+((0:Nat):Int)))=0:=zBF G _ (fun i hi=>HH.out.low (by omega))
    exact ⟨0,0,Nat.zero_le _,rfl,rfl,by rw [hc0,zAp],⟨Nat.zero_le _,fun j hj h=>by omega,fun j hj _ i h1 h2=>HH.out.low (by omega),by rw [hc0]; exact HR1.out⟩,rfl⟩
  case round =>
    obtain ⟨j,bp,hj,rfl,rfl,rfl,hcur,rfl⟩:=hrel
    by_cases hlt:j<n
    · have hbd:-330≤mp∧mp+(n:Int)≤330:=by have:=HBD.out; omega
      obtain ⟨g,c0,hg2,hgc,hcell⟩:=HH.out.rowAt (by omega)
      rw [HP.out] at hg2
      cases hg2
      have hc:=hcell j hlt
      have hltI:(j:Int)<(n:Int):=by omega
      have i1:IntKind.i64.wrap ((j:Int)+1)=(j:Int)+1:=by rw [IntKind.wrap_i64]; omega
      have i2:IntKind.i64.wrap (mp+(j:Int))=mp+(j:Int):=by rw [IntKind.wrap_i64]; omega
      cases hq:q (mp+(j:Int)) with
      | none =>
        rw [hq] at hc
        replace hc:wr.cell? ⟨g,j,none⟩=some (.slice none 0 0):=hc
        have hzz:∀ i,32*(mp+(j:Int))≤i→i<32*(mp+((j+1:Nat):Int))→G i=0:=fun i h1 h2=>HH.out.hole hq h1 (by omega)
        have hcur2:Hid (Cur G bs r (32*(mp+((j+1:Nat):Int))) bp):=hcur.out.skip _ (by omega) hzz
        have HSM:Hid (cum G (32*(mp+((j+1:Nat):Int)))=cum G (32*(mp+(j:Int)))):=zBM G _ _ (by omega) hzz
        clear hcell hq hzz hcur
        go_wp2
        go_loopw [6,7,27] (fun v b i wr2=>v = .float .f64 (nf (cum G (32*(mp+(j:Int)))+bp))∧b = .int .i64 (bp:Int)∧i = .int .i64 0∧wr2=wr) (fun _ _ _ _=>0)
        case atStart=>exact ⟨rfl,rfl,rfl,rfl⟩
        case round =>
          obtain ⟨rfl,rfl,rfl,rfl⟩:=hrel
          go_wp2
          go_roundw
          case rel=>exact ⟨j+1,bp,by omega,by go_num,rfl,by rw [HSM.out],hcur2,rfl⟩
          case measure=>simp [intOf]; omega
      | some z =>
        obtain ⟨b,cp⟩:=z
        rw [hq] at hc
        replace hc:wr.cell? ⟨g,j,none⟩=some (.slice (some ⟨b,0,none⟩) 32 cp):=hc
        have HR:=Lib.hid (HH.out.core.page _ _ _ hq)
        clear hcell hq
        go_wp2
        go_loopw [6,7,27] (fun v b i wr2=>zXt G bs r (mp+(j:Int)) wr wr2 v b i) (fun _ _ i _=>32 - (intOf i).toNat)
        case atStart=>exact ⟨0,bp,by omega,rfl,rfl,by rw [show 32*(mp+(j:Int))+((0:Nat):Int)=32*(mp+(j:Int)) from by omega],by rw [show 32*(mp+(j:Int))+((0:Nat):Int)=32*(mp+(j:Int)) from by omega]; exact hcur,rfl⟩
        case round =>
          obtain ⟨k,bp,hk,rfl,rfl,rfl,hcur,rfl⟩:=hrel
          by_cases hk32:k<32
          · have hkI:(k:Int)<32:=by omega
            have i3:IntKind.i64.wrap ((k:Int)+1)=(k:Int)+1:=by rw [IntKind.wrap_i64]; omega
            have cl:=HR.out.cell k hk32
            have HIX:=HX.out k (by omega) (by omega) (mp+(j:Int)) (by omega) (by omega)
            obtain ⟨x,hx⟩:∃ x,x=32*(mp+(j:Int))+(k:Int):=⟨_,rfl⟩
            rw [← hx] at cl HIX hcur
            have HXE:=Lib.hid hx
            rw [← hx]
            clear hx
            obtain ⟨y,hy⟩:∃ y,y=nf (G x):=⟨_,rfl⟩
            rw [← hy] at cl
            have HY:=Lib.hid hy
            clear hy
            go_wp2_with (go_at_call 268; (with_reducible refine HIX.mono ?_); rintro e w' ⟨rfl,rfl⟩)
            clear HIX
            go_loopw [6,7] (fun v b wr2=>zXR G bs r x wr wr2 v b) (fun _ b _=>bs.length - (intOf b).toNat)
            case atStart=>exact ⟨bp,rfl,rfl,hcur,rfl⟩
            case round =>
              obtain ⟨bp,rfl,rfl,hcur,rfl⟩:=hrel
              have hble:=hcur.out.le
              by_cases hmore:bp<bs.length
              · obtain ⟨gb,hao,hbc⟩:=HBC.out (by omega)
                subst hao
                have cb0:=hbc bp hmore
                have hmI:(bp:Int)<((bs.length:Nat):Int):=by omega
                by_cases hless:bs[bp]<x
                · have hadd:=fun w:World=>run_float_arith (P:=Tryz.prog) w .add 29 .f64 _ _ _ (zAz (cum G x+bp) 1 (by have:=HC.out x; have:=HT.out; omega))
                  rw [zCs,Nat.add_assoc] at hadd
                  have i4:IntKind.i64.wrap ((bp:Int)+1)=(bp:Int)+1:=by rw [IntKind.wrap_i64]; omega
                  have HPR1:=HPR (nf (cum G x+(bp+1)))
                  have HLE:=Lib.hid hless
                  have HKY:Hid (fgt2 (nf (cum G x+(bp+1))) r=true→zB5 (both G bs) r bs[bp]):=fun hy=>hcur.out.found HI.out HS.out HZ.out (by have:=HT.out; omega) hmore hless hy
                  have HTK:Hid (fgt2 (nf (cum G x+(bp+1))) r=false→Cur G bs r x (bp+1)):=fun hy=>hcur.out.take hmore hless hy
                  obtain ⟨s,hs⟩:∃ s,s=nf (cum G x+(bp+1)):=⟨_,rfl⟩
                  obtain ⟨z,hz⟩:∃ z,z=bs[bp]:=⟨_,rfl⟩
                  rw [← hs] at hadd HPR1 HKY HTK
                  rw [← hz] at cb0 hless HKY
                  have HSS:=Lib.hid hs
                  clear hs hz hbc hcur
                  cases hf:fgt2 s r
                  · rw [hf] at HPR1
                    have hcur2:=Lib.hid (HTK.out hf)
                    clear HKY HTK hf
                    go_wp2_with (go_at_call 270; (with_reducible refine HPR1.mono ?_); rintro e w' ⟨rfl,rfl⟩)
                    go_roundw
                    case rel=>exact ⟨bp+1,by go_num,by rw [HSS.out],hcur2,rfl⟩
                    case measure=>simp [intOf]; omega
                  · rw [hf] at HPR1
                    have hres:=Lib.hid (HKY.out hf)
                    clear HKY HTK hf
                    go_wp2_with (go_at_call 270; (with_reducible refine HPR1.mono ?_); rintro e w' ⟨rfl,rfl⟩)
                    go_ret2
                    exact ⟨bs,_,rfl,by rw [← HBOTH.out]; exact hres.out,HPERM.out,HH.out,HFR.out⟩
                · have hrest:∀ j,(hj:j<bs.length)→bp≤j→x≤bs[j]:=fun j hj hjb=>by have:=HST.out bp j hmore hj hjb; omega
                  obtain ⟨z,hz⟩:∃ z,z=bs[bp]:=⟨_,rfl⟩
                  rw [← hz] at cb0 hless
                  clear hz hbc
                  have hst:=zI4 (fun i hi=>HZ.out i (.inl hi)) x
                  have hadd:=fun w:World=>run_float_arith (P:=Tryz.prog) w .add 29 .f64 _ _ _ (zAz (cum G x+bp) (G x) (by have:=HC.out (x+1); have:=HT.out; omega))
                  rw [show cum G x+bp+G x=cum G (x+1)+bp from by omega,← HY.out] at hadd
                  have HPR1:=HPR (nf (cum G (x+1)+bp))
                  have HKY:Hid (fgt2 (nf (cum G (x+1)+bp)) r=true→zB5 (both G bs) r x):=fun hy=>hcur.out.at HI.out HZ.out (by have:=HT.out; omega) hrest hy
                  have HTK:Hid (fgt2 (nf (cum G (x+1)+bp)) r=false→Cur G bs r (x+1) bp):=fun hy=>hcur.out.next hrest hy
                  obtain ⟨s,hs⟩:∃ s,s=nf (cum G (x+1)+bp):=⟨_,rfl⟩
                  rw [← hs] at hadd HPR1 HKY HTK
                  have HSS:=Lib.hid hs
                  clear hs hst hrest hcur
                  cases hf:fgt2 s r
                  · rw [hf] at HPR1
                    have hcur2:=Lib.hid (HTK.out hf)
                    clear HKY HTK hf
                    go_wp2_with (go_at_call 270; (with_reducible refine HPR1.mono ?_); rintro e w' ⟨rfl,rfl⟩)
                    go_roundw
                    case rel =>
                      have e1:x+1=32*(mp+(j:Int))+((k+1:Nat):Int):=by have:=HXE.out; omega
                      exact ⟨k+1,bp,by omega,by go_num,rfl,by rw [HSS.out,e1],by rw [← e1]; exact hcur2,rfl⟩
                    case measure=>simp [intOf]; omega
                  · rw [hf] at HPR1
                    have hres:=Lib.hid (HKY.out hf)
                    clear HKY HTK hf
                    go_wp2_with (go_at_call 270; (with_reducible refine HPR1.mono ?_); rintro e w' ⟨rfl,rfl⟩)
                    go_ret2
                    exact ⟨bs,_,rfl,by rw [← HBOTH.out]; exact hres.out,HPERM.out,HH.out,HFR.out⟩
              · have hrest:∀ j,(hj:j<bs.length)→bp≤j→x≤bs[j]:=fun j hj hjb=>by omega
                have hmI:decide ((bp:Int)<((bs.length:Nat):Int))=false:=by simp; omega
                have hst:=zI4 (fun i hi=>HZ.out i (.inl hi)) x
                have hadd:=fun w:World=>run_float_arith (P:=Tryz.prog) w .add 29 .f64 _ _ _ (zAz (cum G x+bp) (G x) (by have:=HC.out (x+1); have:=HT.out; omega))
                rw [show cum G x+bp+G x=cum G (x+1)+bp from by omega,← HY.out] at hadd
                have HPR1:=HPR (nf (cum G (x+1)+bp))
                have HKY:Hid (fgt2 (nf (cum G (x+1)+bp)) r=true→zB5 (both G bs) r x):=fun hy=>hcur.out.at HI.out HZ.out (by have:=HT.out; omega) hrest hy
                have HTK:Hid (fgt2 (nf (cum G (x+1)+bp)) r=false→Cur G bs r (x+1) bp):=fun hy=>hcur.out.next hrest hy
                obtain ⟨s,hs⟩:∃ s,s=nf (cum G (x+1)+bp):=⟨_,rfl⟩
                rw [← hs] at hadd HPR1 HKY HTK
                have HSS:=Lib.hid hs
                clear hs hst hrest hcur
                cases hf:fgt2 s r
                · rw [hf] at HPR1
                  have hcur2:=Lib.hid (HTK.out hf)
                  clear HKY HTK hf
                  go_wp2_with (go_at_call 270; (with_reducible refine HPR1.mono ?_); rintro e w' ⟨rfl,rfl⟩)
                  go_roundw
                  case rel =>
                    have e1:x+1=32*(mp+(j:Int))+((k+1:Nat):Int):=by have:=HXE.out; omega
                    exact ⟨k+1,bp,by omega,by go_num,rfl,by rw [HSS.out,e1],by rw [← e1]; exact hcur2,rfl⟩
                  case measure=>simp [intOf]; omega
                · rw [hf] at HPR1
                  have hres:=Lib.hid (HKY.out hf)
                  clear HKY HTK hf
                  go_wp2_with (go_at_call 270; (with_reducible refine HPR1.mono ?_); rintro e w' ⟨rfl,rfl⟩)
                  go_ret2
                  exact ⟨bs,_,rfl,by rw [← HBOTH.out]; exact hres.out,HPERM.out,HH.out,HFR.out⟩
          · obtain rfl:k=32:=by omega
            clear hk32 hk
            go_wp2
            go_roundw
            case rel =>
              have e1:32*(mp+((j+1:Nat):Int))=32*(mp+(j:Int))+((32:Nat):Int):=by omega
              exact ⟨j+1,bp,by omega,by go_num,rfl,by rw [e1],by rw [e1]; exact hcur,rfl⟩
            case measure=>simp [intOf]; omega
    · obtain rfl:j=n:=by omega
      have hzz:∀ i,32*(mp+(j:Int))≤i→G i=0:=fun i h1=>HH.out.high h1
      obtain ⟨X,hX⟩:∃ X,X=max (32*(mp+(j:Int))) 10001:=⟨_,rfl⟩
      have hcX:cum G X=cum G (32*(mp+(j:Int))):=zBM G _ _ (by omega) (fun i h1 h2=>hzz i h1)
      have hcur2:Hid (Cur G bs r X bp):=hcur.out.skip X (by omega) (fun i h1 h2=>hzz i h1)
      have HXT:Hid (cum G X=tot2 G):=by
        show _=_
        by_cases c:X≤10001
        · rw [show X=10001 from by omega]; rfl
        · rw [zBv,zBM G 10001 X (by omega) (fun i h1 h2=>HZ.out i (.inr (by omega)))]
      have HX1:Hid (10001≤X):=by show _≤_; omega
      rw [← hcX]
      clear hlt hj hcX hX hzz hcur
      go_wp2
      go_loopw [6,7] (fun v b wr2=>zXR G bs r X wr wr2 v b) (fun _ b _=>bs.length - (intOf b).toNat)
      case atStart=>exact ⟨bp,rfl,rfl,hcur2,rfl⟩
      case round =>
        obtain ⟨bp,rfl,rfl,hcur,rfl⟩:=hrel
        have hble:=hcur.out.le
        by_cases hmore:bp<bs.length
        · obtain ⟨gb,hao,hbc⟩:=HBC.out (by omega)
          subst hao
          have cb0:=hbc bp hmore
          have hmI:(bp:Int)<((bs.length:Nat):Int):=by omega
          have hless:bs[bp]<X:=by have:=(HI.out bs[bp] (List.getElem_mem hmore)).2; have:=HX1.out; omega
          have hadd:=fun w:World=>run_float_arith (P:=Tryz.prog) w .add 29 .f64 _ _ _ (zAz (cum G X+bp) 1 (by have:=HC.out X; have:=HT.out; omega))
          rw [zCs,Nat.add_assoc] at hadd
          have i4:IntKind.i64.wrap ((bp:Int)+1)=(bp:Int)+1:=by rw [IntKind.wrap_i64]; omega
          have HPR1:=HPR (nf (cum G X+(bp+1)))
          have HKY:Hid (fgt2 (nf (cum G X+(bp+1))) r=true→zB5 (both G bs) r bs[bp]):=fun hy=>hcur.out.found HI.out HS.out HZ.out (by have:=HT.out; omega) hmore hless hy
          have HTK:Hid (fgt2 (nf (cum G X+(bp+1))) r=false→Cur G bs r X (bp+1)):=fun hy=>hcur.out.take hmore hless hy
          obtain ⟨s,hs⟩:∃ s,s=nf (cum G X+(bp+1)):=⟨_,rfl⟩
          obtain ⟨z,hz⟩:∃ z,z=bs[bp]:=⟨_,rfl⟩
          rw [← hs] at hadd HPR1 HKY HTK
          rw [← hz] at cb0 HKY
          have HSS:=Lib.hid hs
          clear hs hz hbc hcur hless
          cases hf:fgt2 s r
          · rw [hf] at HPR1
            have hcur2:=Lib.hid (HTK.out hf)
            clear HKY HTK hf
            go_wp2_with (go_at_call 270; (with_reducible refine HPR1.mono ?_); rintro e w' ⟨rfl,rfl⟩)
            go_roundw
            case rel=>exact ⟨bp+1,by go_num,by rw [HSS.out],hcur2,rfl⟩
            case measure=>simp [intOf]; omega
          · rw [hf] at HPR1
            have hres:=Lib.hid (HKY.out hf)
            clear HKY HTK hf
            go_wp2_with (go_at_call 270; (with_reducible refine HPR1.mono ?_); rintro e w' ⟨rfl,rfl⟩)
            go_ret2
            exact ⟨bs,_,rfl,by rw [← HBOTH.out]; exact hres.out,HPERM.out,HH.out,HFR.out⟩
        · exfalso
          have h1:=hcur.out.no
          rw [HXT.out,show bp=bs.length from by omega,HR2.out] at h1
          cases h1
end Go.Proofs.YtllaekopaglolaaGreat
end
/-
  The store with pages: KeyAtRank itself.
-/
section
namespace Go.Proofs.YtllaekopaglolaaGreat
open Go.RowKit
variable {tg:Int}
set_option maxRecDepth 100000 in
set_option maxHeartbeats 400000 in
theorem zOI (G:Int→Nat) (bs:List Int) (q:Int→Option (Nat × Nat)) (mp:Int) (n p:Nat) (bufv pgs:Value) (r:Nat) (w:World) (h:zAH tg G bs q mp n p bufv pgs w)
   (hI:InI bs) (hz:∀ i,i < -10000∨10000<i→G i=0) (hT:tot2 G+bs.length<1000000000) (hr0:(FloatKind.f64.format.order r 0 == some .lt)=false) (hr1:fgt2 (nf 0) r=false) (hr2:fgt2 (nf (tot2 G+bs.length)) r=true) :
    Calls Tryz.prog 257 #[.pointer (some ⟨p,0,none⟩),.float .f64 r] w fun e w'=>zJC tg G bs q mp n p bufv pgs r (fun K=>.int .i64 K) w e w':=by
  have hnew:(w.alloc (.cells #[.float .f64 r] 29)).heap[w.heap.size]?=some (.cells #[.float .f64 r] 29 (0,0)):=heap_alloc_new w _
  have hg:w.grownBy (w.alloc (.cells #[.float .f64 r] 29)) none:=World.grownBy_alloc w _ none
  have HC:=zJ4 G bs q mp n p bufv pgs r w.heap.size (w.alloc (.cells #[.float .f64 r] 29)) (h.grown hg) hnew hI hz hT hr1 hr2
  have HG:=Lib.hid hg
  clear h hI hz hT hr1 hr2 hnew hg
  go_enter Tryz.func257,Tryz.ntmps257
  go_wp2_with (go_at_call 269; (with_reducible refine HC.mono ?_); rintro e w1 ⟨bs',K,rfl,hk,hp,hP,hf⟩; have HK:=Lib.hid hk; have HPM:=Lib.hid hp; have HP:=Lib.hid hP; have HF:=Lib.hid hf; clear hk hp hP hf HC)
  go_ret
  exact ⟨bs',K,rfl,HK.out,HPM.out,HP.out,(⟨HG.out.os,HG.out.tape,HG.out.output,HG.out.size,fun k hk _=>HG.out.block k hk (by simp)⟩:Fr (fun _=>False) w _).trans HF.out (fun _ _ h=>h.elim) (fun _ _ h=>h)⟩
end Go.Proofs.YtllaekopaglolaaGreat
end
/-
  The store with pages,as one of its kind.
-/
section
namespace Go.Proofs.YtllaekopaglolaaGreat
open Go.RowKit
theorem zWu (p:Nat) (w:World):(method 339 97 (.pointer (some ⟨p,0,none⟩)) "AddWithCount").run Tryz.prog w = .ok (249,.pointer (some ⟨p,0,none⟩)) w:=by kernel_rfl
theorem zWr (p:Nat) (w:World):(method 339 97 (.pointer (some ⟨p,0,none⟩)) "KeyAtRank").run Tryz.prog w = .ok (257,.pointer (some ⟨p,0,none⟩)) w:=by kernel_rfl
def StP (_most:Int) (xs:Bins) (S:Nat→Prop) (p:Nat) (w:World):Prop :=
  ∃ tg G bs q mp n bufv pgs,zAH tg G bs q mp n p bufv pgs w∧both G bs=cntB xs∧InI bs∧bs.length≤tot xs∧(xs=[]→n=0)∧∀ k,S k↔zAS q p bufv pgs k
theorem zEJ {G:Int→Nat} {bs:List Int} {xs:Bins} (h:both G bs=cntB xs) (hr:InR xs):∀ i,i < -10000∨10000<i→G i=0:=fun i hi=>by
  have h1:G i+cntI bs i=cntB xs i:=congrFun h i
  rw [zBy hr i hi] at h1; omega
theorem zGl {G:Int→Nat} {bs:List Int} {xs:Bins} (h:both G bs=cntB xs) (hr:InR xs) (hI:InI bs):tot2 G+bs.length=tot xs:=by
  rw [← zAy hr,← h]
  show _=cum (fun i=>G i+cntI bs i) 10001
  rw [zFV,zFW hI,List.filter_eq_self.2]
  · rfl
  · intro b hb
    have:=(hI b hb).2
    simp; omega
theorem zAH.fr {tg:Int} {G:Int→Nat} {bs:List Int} {q:Int→Option (Nat × Nat)} {mp:Int} {n p:Nat} {bufv pgs:Value} {w w':World} {S:Nat→Prop} (h:zAH tg G bs q mp n p bufv pgs w) (hf:Fr S w w') (hn:∀ k,zAS q p bufv pgs k→¬ S k):zAH tg G bs q mp n p bufv pgs w' :=
  ⟨⟨h.core.fields.fr hf (hn p (.inl rfl)),hf.owns h.core.buf (fun k hk=>hn k (.inr (.inl hk))),hf.owns h.core.row (fun k hk=>hn k (.inr (.inr (.inl hk)))),fun x b cp hx=>(h.core.page x b cp hx).fr hf (hn b (.inr (.inr (.inr ⟨x,cp,hx⟩)))),h.core.zero,h.core.inj⟩,h.inside,h.bd⟩
set_option maxRecDepth 100000 in
theorem zQu (most:Int) (w:World):Calls Tryz.prog 35 #[.int .i64 2,.int .i64 most] w fun e w'=>∃ p S,e = .returned (.iface 97 (.pointer (some ⟨p,0,none⟩)))∧StP most [] S p w'∧(∀ k,S k→w.heap.size≤k)∧Fr (fun _=>False) w w':=by
  go_enter Tryz.func35,Tryz.ntmps35
  go_wp2_with (go_at_call 56; (with_reducible refine (zUE _).mono ?_); rintro e w' ⟨p,bufv,rfl,h1,h2,h3⟩; have H1:=Lib.hid h1; have H2:=Lib.hid h2; have H3:=Lib.hid h3; clear h1 h2 h3)
  go_ret
  exact ⟨p,zAS (fun _=>none) p bufv (.slice none 0 0),rfl,⟨64,_,[],_,_,0,bufv,_,H1.out,rfl,(fun b hb=>by cases hb),Nat.le_refl _,(fun _=>rfl),fun k=>Iff.rfl⟩,H2.out,H3.out⟩
def zM5:zAD 2 where
  T:=97
  fAdd:=249
  fKey:=257
  St:=StP
  mAdd:=zWu
  mKey:=zWr
  eAdd:=enters_of Tryz.func249 (by kernel_rfl) rfl
  eKey:=enters_of Tryz.func257 (by kernel_rfl) rfl
  new:=fun most w _=>zQu most w
  add:=fun most xs S p i c w _ h hr _ ht hl b1 b2 hc=>by
    obtain ⟨tg,G,bs,q,mp,n,bufv,pgs,h1,h2,h3,h4,h5,h6⟩:=h
    have hG:G i≤tot xs:=by
      have e1:G i+cntI bs i=cntB xs i:=congrFun h2 i
      have:=zCk (cntB xs) i b1 b2
      rw [zAy hr] at this; omega
    have hF:∀ x,both G bs x<1000000000:=fun x=>by
      rw [h2]
      by_cases c:-10000≤x∧x≤10000
      · have:=zCk (cntB xs) x c.1 c.2
        rw [zAy hr] at this; omega
      · rw [zBy hr x (by omega)]; decide
    refine (zU4 G bs q mp n p bufv pgs i c w h1 hc (by omega) h3 hF (by omega) b1 b2).mono ?_
    rintro e w' ⟨tg',G',bs',q',mp',n',bufv',pgs',rfl,k1,k2,k3,k4,k5,k6⟩
    refine ⟨rfl,zAS q' p bufv' pgs',⟨tg',G',bs',q',mp',n',bufv',pgs',k1,by rw [k2,h2,zFd],k3,by rw [zC6]; omega,?_,fun k=>Iff.rfl⟩,k5.mono (fun k _ hk=>(h6 k).2 hk),fun k hk=>?_⟩
    · intro e; simp at e
    · rcases k6 k hk with h | h
      · exact .inl ((h6 k).2 h)
      · exact .inr h
  key:=fun most xs S p r w _ h hr hp ht hl hr0 hr1 hr2=>by
    obtain ⟨tg,G,bs,q,mp,n,bufv,pgs,h1,h2,h3,h4,h5,h6⟩:=h
    have htt:=zGl h2 hr h3
    refine (zOI G bs q mp n p bufv pgs r w h1 h3 (zEJ h2 hr) (by omega) hr0 hr1 (by rw [htt]; exact hr2)).mono ?_
    rintro e w' ⟨bs',K,rfl,hk,hpm,hP,hf⟩
    refine ⟨⟨K,rfl,by rw [zCz (by decide) (by decide),← h2]; exact hk⟩,S,⟨tg,G,bs',q,mp,n,bufv,pgs,hP,?_,fun b hb=>h3 b (hpm.mem_iff.1 hb),by rw [hpm.length_eq]; exact h4,h5,h6⟩,hf.mono (fun k _ hk=>(h6 k).2 (.inr (.inl hk))),fun k hk=>.inl hk⟩
    rw [← h2]
    show (fun i=>G i+cntI bs' i)=fun i=>G i+cntI bs i
    rw [zFc hpm]
  fr:=fun most xs S p S2 w w' h hf hn=>by
    obtain ⟨tg,G,bs,q,mp,n,bufv,pgs,h1,h2,h3,h4,h5,h6⟩:=h
    exact ⟨tg,G,bs,q,mp,n,bufv,pgs,h1.fr hf (fun k hk=>hn k ((h6 k).2 hk)),h2,h3,h4,h5,h6⟩
  lt:=fun most xs S p w h k hk=>by
    obtain ⟨tg,G,bs,q,mp,n,bufv,pgs,h1,h2,h3,h4,h5,h6⟩:=h
    rcases (h6 k).1 hk with e | e | e | ⟨x,cp,e⟩
    · rw [e]; exact h1.core.fields.lt
    · exact (h1.core.buf.lt k e).2
    · exact (h1.core.row.lt k e).2
    · exact (h1.core.page x k cp e).lt
end Go.Proofs.YtllaekopaglolaaGreat
end
/-
  KeyAtRank of a rank below nought: as of the rank 0.
-/
section
namespace Go.Proofs.YtllaekopaglolaaGreat
open Go.RowKit Go.Maps
set_option maxRecDepth 100000 in
set_option maxHeartbeats 400000 in
theorem zSa (f:Int→Nat) (n r:Nat) (mn mx:Int) (p g L cp:Nat) (rest:List Value) (T:TypeId) (w:World) (h:zBW f (.float .f64 (nf n)) mn mx p g L cp rest T w)
   (hf:∀ i,i<mn∨mx<i→f i=0) (hn:n=tot2 f) (hs:n<9007199254740992) (hlo:-10000≤mn) (hhi:mx≤10000) (hL:L≤1000000)
   (hr0:(FloatKind.f64.format.order r 0 == some .lt)=true) (hr1:fgt2 (nf 0) 0=false) (hr2:fgt2 (nf n) 0=true) :
    Calls Tryz.prog 176 #[.pointer (some ⟨p,0,none⟩),.float .f64 r] w fun e w'=>(∃ k,e = .returned (.int .i64 k)∧zB5 f 0 k)∧w'=w:=by
  obtain ⟨off,hd,hr,o1,o2,o3,o4⟩:=h
  obtain ⟨d0,-,d2,-,-⟩:=hd.cells
  have HR:=Lib.hid hr
  have HF:=Lib.hid hf
  have HN:=Lib.hid hn
  have HS:=Lib.hid hs
  have HR1:=Lib.hid hr1
  have HR2:=Lib.hid hr2
  clear hd hr hf hn hs hr1 hr2
  go_enter Tryz.func176,Tryz.ntmps176
  go_wp2
  go_loopw [5,15] (fun v i wr=>zTa f 0 off L w wr v i) (fun _ i _=>L - (intOf i).toNat)
  case atStart =>
    refine ⟨0,Nat.zero_le _,rfl,?_,rfl,fun x hx=>?_⟩
    · rw [zBF f _ (fun i hi=>HF.out i (by omega)),zAp]
    · rw [zBF f _ (fun i hi=>HF.out i (by omega))]; exact HR1.out
  case round =>
    obtain ⟨k,hk,rfl,rfl,rfl,HK⟩:=hrel
    by_cases hlt:k<L
    · have hlt2:(k:Int)<(L:Int):=by omega
      have hcell:=HR.out.cell k hlt
      have hbig:Hid (off+(k:Int)<mn ∨ -10000≤off+(k:Int)):=by show _∨_; omega
      have hsum:cum f (off+(k:Int))+f (off+(k:Int))=cum f (off+((k+1:Nat):Int)):=by
        rw [show off+((k+1:Nat):Int)=off+(k:Int)+1 from by omega]
        rcases hbig.out with h | h
        · rw [HF.out _ (.inl h),zBF f _ (fun i hi=>HF.out i (by omega)),zBF f _ (fun i hi=>HF.out i (by omega))]
        · rw [zFU f _ h]
      have hle:cum f (off+((k+1:Nat):Int))≤tot2 f:=by
        by_cases h:off+((k+1:Nat):Int)≤10001
        · exact zCR f _ h
        · rw [zBv,zBM f 10001 _ (by omega) (fun i h1 _=>HF.out i (by omega))]; omega
      have hadd:=fun w:World=>run_float_arith (P:=Tryz.prog) w .add 29 .f64 _ _ _ (zAz (cum f (off+(k:Int))) (f (off+(k:Int))) (by have:=HN.out; have:=HS.out; omega))
      rw [hsum] at hadd
      obtain ⟨y,hy⟩:∃ y,y=nf (cum f (off+((k+1:Nat):Int))):=⟨_,rfl⟩
      rw [← hy] at hadd
      have HY:=Lib.hid hy
      have i1:IntKind.i64.wrap ((k:Int)+off)=(k:Int)+off:=by rw [IntKind.wrap_i64]; omega
      clear hy hsum hle hbig
      cases hc:(FloatKind.f64.format.order y 0 == some .gt)
      · have hrel':Hid (∀ x,x<off+((k+1:Nat):Int)→fgt2 (nf (cum f (x+1))) 0=false):=by
          intro x hx
          by_cases hxk:x<off+(k:Int)
          · exact HK.out x hxk
          · have hc':fgt2 y 0=false:=hc
            rw [HY.out] at hc'
            rw [show x+1=off+((k+1:Nat):Int) from by omega]
            exact hc'
        clear HK
        go_wp2
        go_roundw
        case rel=>exact ⟨k+1,by omega,by go_num,by rw [HY.out],rfl,hrel'.out⟩
        case measure=>simp [intOf]; omega
      · have hres:zB5 f 0 ((k:Int)+off):=by
          have hc':fgt2 y 0=true:=hc
          refine ⟨?_,fun x hx=>HK.out x (by omega)⟩
          rw [show (k:Int)+off+1=off+((k+1:Nat):Int) from by omega,← HY.out]
          exact hc'
        have HRES:=Lib.hid hres
        clear HK HY hres
        go_wp2
        go_ret
        exact ⟨⟨_,rfl,HRES.out⟩,rfl⟩
    · exfalso
      obtain rfl:k=L:=by omega
      have h1:=HK.out (off+(k:Int) - 1) (by omega)
      rw [show off+(k:Int) - 1+1=off+(k:Int) from by omega] at h1
      have e1:cum f (off+(k:Int))=tot2 f:=by
        by_cases h:off+(k:Int)≤10001
        · exact (zKM f _ h (fun i hi=>HF.out i (by omega))).symm
        · rw [zBv,zBM f 10001 _ (by omega) (fun i h1 _=>HF.out i (by omega))]
      rw [e1,← HN.out,HR2.out] at h1
      cases h1
set_option maxRecDepth 100000 in
set_option maxHeartbeats 400000 in
theorem zSY {tg:Int} (G:Int→Nat) (bs:List Int) (q:Int→Option (Nat × Nat)) (mp:Int) (n p:Nat) (bufv pgs:Value) (r:Nat) (w:World) (h:zAH tg G bs q mp n p bufv pgs w)
   (hI:InI bs) (hz:∀ i,i < -10000∨10000<i→G i=0) (hT:tot2 G+bs.length<1000000000) (hr0:(FloatKind.f64.format.order r 0 == some .lt)=true) (hr1:fgt2 (nf 0) 0=false) (hr2:fgt2 (nf (tot2 G+bs.length)) 0=true) :
    Calls Tryz.prog 257 #[.pointer (some ⟨p,0,none⟩),.float .f64 r] w fun e w'=>zJC tg G bs q mp n p bufv pgs 0 (fun K=>.int .i64 K) w e w':=by
  have hnew:(w.alloc (.cells #[.float .f64 0] 29)).heap[w.heap.size]?=some (.cells #[.float .f64 0] 29 (0,0)):=heap_alloc_new w _
  have hg:w.grownBy (w.alloc (.cells #[.float .f64 0] 29)) none:=World.grownBy_alloc w _ none
  have HC:=zJ4 G bs q mp n p bufv pgs 0 w.heap.size (w.alloc (.cells #[.float .f64 0] 29)) (h.grown hg) hnew hI hz hT hr1 hr2
  have HG:=Lib.hid hg
  clear h hI hz hT hr1 hr2 hnew hg
  go_enter Tryz.func257,Tryz.ntmps257
  go_wp2_with (go_at_call 269; (with_reducible refine HC.mono ?_); rintro e w1 ⟨bs',K,rfl,hk,hp,hP,hf⟩; have HK:=Lib.hid hk; have HPM:=Lib.hid hp; have HP:=Lib.hid hP; have HF:=Lib.hid hf; clear hk hp hP hf HC)
  go_ret
  exact ⟨bs',K,rfl,HK.out,HPM.out,HP.out,(⟨HG.out.os,HG.out.tape,HG.out.output,HG.out.size,fun k hk _=>HG.out.block k hk (by simp)⟩:Fr (fun _=>False) w _).trans HF.out (fun _ _ h=>h.elim) (fun _ _ h=>h)⟩
set_option maxRecDepth 100000 in
set_option maxHeartbeats 400000 in
theorem zSX (f:Int→Nat) (p b k r:Nat) (w:World) (h:zDY f p b k w) (hk:k≤1000000) (hz:∀ i,i < -10000∨10000<i→f i=0) (hs:tot2 f<1000000000)
   (hr1:fgt2 (nf 0) 0=false) (hr2:fgt2 (nf (tot2 f)) 0=true) (hr:∀ n,0<n→n<9007199254740992→fgt2 (nf n) 0=true∧fgt2 (nf n) r=true) :
    Calls Tryz.prog 202 #[.pointer (some ⟨p,0,none⟩),.float .f64 r] w fun e w'=>(∃ K,e = .returned (.int .i64 K)∧zB5 f 0 K)∧Below w.heap.size w w':=by
  have HOR:=zG7 f p b k w h hk hz hs
  have HZ:=Lib.hid hz
  have HS:=Lib.hid hs
  have HR:=Lib.hid hr
  have HR1:=Lib.hid hr1
  have HR2:=Lib.hid hr2
  clear h hz hs hr1 hr2 hr
  go_enter Tryz.func202,Tryz.ntmps202
  go_wp2_with fail
  refine HOR.mono ?_
  clear HOR
  rintro e w0 ⟨zs,hnd,hmem,hsort,ar0,cr0,rfl,hown0⟩
  have htot:tot (zAh f zs)=tot2 f:=by rw [← zAy (zBQ hmem HZ.out),zB3 hnd hmem]
  obtain ⟨l,hl⟩:∃ l,l=zAh f zs:=⟨_,rfl⟩
  have hpos:Pos l:=by rw [hl]; exact zCn hmem
  have hne:l≠[]:=by
    intro e
    have h1:tot2 f=0:=by rw [← htot,← hl,e]; rfl
    have h2:=HR2.out
    rw [h1,HR1.out] at h2; cases h2
  have hkey:Hid (zB5 f 0 (keyF 0 0 l)):=by
    have h1:=zSZ (l:=l) (by rw [hl]; exact zF1 hnd hsort) (by rw [hl]; exact zBQ hmem HZ.out) 0 HR1.out (by rw [hl,htot]; exact HR2.out) hne
    rw [show cntB l=f from by rw [hl]; exact zB3 hnd hmem] at h1
    exact h1
  rw [← hl] at hown0 htot
  rw [← hl]
  have hlen:l.length<1000000000:=by
    have h1:=zFn hpos
    rw [htot] at h1
    have:=HS.out; omega
  obtain ⟨⟨x,c⟩,t,rfl⟩:∃ q t,l=q :: t:=by cases l with | nil=>exact absurd rfl hne | cons q t=>exact ⟨q,t,rfl⟩
  have hc:0<c:=hpos (x,c) List.mem_cons_self
  have hc2:c<9007199254740992:=by
    have h1:c+tot t=tot2 f:=htot
    have:=HS.out; omega
  have hkx:keyF 0 0 ((x,c) :: t)=x:=by
    show (if fgt2 (nf (0+c)) 0||t.isEmpty then x else keyF 0 (0+c) t)=x
    rw [Nat.zero_add,(HR.out c hc hc2).1]; rfl
  have hgt:(FloatKind.f64.format.order (nf c) r == some .gt)=true:=(HR.out c hc hc2).2
  have hadd:=fun w:World=>run_float_arith (P:=Tryz.prog) w .add 29 .f64 _ _ _ (zAz 0 c (by omega))
  rw [zAp,Nat.zero_add] at hadd
  have hLie:=zSf hown0
  have HL:=Lib.hid hLie
  have HB0:=Lib.hid hown0.2
  have HKX:=Lib.hid hkx
  have hlen2:(fb ((x,c) :: t)).length=t.length+1:=by rw [zBi]; rfl
  rcases hLie with h0 | ⟨g,off,rfl,hcell⟩
  · have:=congrArg List.length h0; rw [zBi] at this; simp at this
  obtain ⟨c0,c1⟩:=hcell 0 (by rw [zBi]; simp)
  rw [zSn] at c0 c1
  dsimp only [List.getElem_cons_zero] at c0 c1
  rw [hlen2]
  have c0':w0.cell? ⟨g,off,none⟩=some (.int .i64 x):=by simpa using c0
  have c1':w0.cell? ⟨g,off+1,none⟩=some (.float .f64 (nf c)):=by simpa using c1
  clear c0 c1
  have hlt9:(0:Int)<((t.length+1:Nat):Int):=by omega
  clear hnd hmem hsort hown0 hl htot hcell hpos hne hc hc2 hkx hlen2 HL
  go_wp2
  go_loopw [6,15] (fun v i wr=>i = .int .i64 0∧v = .float .f64 0∧wr=w0) (fun _ i _=>1 - (intOf i).toNat)
  case atStart=>exact ⟨rfl,rfl,rfl⟩
  case round =>
    obtain ⟨rfl,rfl,rfl⟩:=hrel
    go_wp2
    go_ret
    exact ⟨⟨_,rfl,by rw [← HKX.out]; exact hkey.out⟩,HB0.out.trans ((Below.refl _ _).alloc HB0.out.size _)⟩
end Go.Proofs.YtllaekopaglolaaGreat
end
/-
  What a store of a kind tells: its count,whether it is empty,its bins,its least and its greatest index.
-/
section
namespace Go.Proofs.YtllaekopaglolaaGreat
open Go.RowKit
def zHr {kind:Int} (K:zAD kind) (most:Int) (xs:Bins) (S:Nat→Prop) (p:Nat) (w w':World):Prop:=K.St most xs S p w'∧Fr S w w'
structure Few (kind most:Int) (xs:Bins):Prop where
  known:zBg kind most=true
  inR:InR xs
  pos:Pos xs
  tot:tot xs<1000000000
  len:xs.length≤1000
theorem zOM (kind most:Int):zBz kind most []=[]:=by
  unfold zBz lowB zND
  split
  · rfl
  · split
    · rfl
    · rfl
theorem zRM {xs:Bins} (hp:Pos xs) (h:xs≠[]):0<tot xs:=by
  cases xs with
  | nil=>exact absurd rfl h
  | cons p t =>
    have:=hp p List.mem_cons_self
    show 0<p.2+tot t
    omega
theorem zM7 {xs:Bins} (hp:Pos xs):(tot xs == 0)=xs.isEmpty:=by
  cases xs with
  | nil=>rfl
  | cons p t =>
    have:=zRM hp (List.cons_ne_nil p t)
    simp; omega
end Go.Proofs.YtllaekopaglolaaGreat
end
/-
  The store that collapses its lowest bins,as one of its kind.
-/
section
namespace Go.Proofs.YtllaekopaglolaaGreat
open Go.RowKit
theorem zWy {most:Int} (h:zBg 3 most=true):∃ m:Nat,most=(m:Int)∧1≤m∧m≤500:=by
  simp [zBg] at h
  exact ⟨most.toNat,by omega,by omega,by omega⟩
theorem zWx {most:Int} (h:zBg 4 most=true):∃ m:Nat,most=(m:Int)∧1≤m∧m≤500:=by
  simp [zBg] at h
  exact ⟨most.toNat,by omega,by omega,by omega⟩
end Go.Proofs.YtllaekopaglolaaGreat
end
/-
  What the dense stores tell.
-/
section
namespace Go.Proofs.YtllaekopaglolaaGreat
open Go.RowKit
def zRE (f:Int→Nat) (n p:Nat) (w:World):Prop :=
  (n=0∧(∀ i,f i=0)∧∃ rest T,zKI p rest T w) ∨
  ∃ mn mx g L cp rest T,zBW f (.float .f64 (nf n)) mn mx p g L cp rest T w∧(∀ i,i<mn∨mx<i→f i=0)∧mn≤mx∧0<n∧n<9007199254740992 ∧ -10000≤mn∧mx≤10000∧0<f mn∧0<f mx∧tot2 f=n
theorem zRE.tot {f:Int→Nat} {n p:Nat} {w:World} (h:zRE f n p w):Calls Tryz.prog 181 #[.pointer (some ⟨p,0,none⟩)] w fun e w'=>e = .returned (.float .f64 (nf n))∧w'=w:=by
  rcases h with ⟨rfl,_,rest,T,h⟩ | ⟨mn,mx,g,L,cp,rest,T,⟨off,h,_⟩,_⟩
  · rw [zAp]; exact zH1 p _ w (DS.cells h).2.1
  · exact zH1 p _ w (DS.cells h).2.1
theorem zRE.emp {f:Int→Nat} {n p:Nat} {w:World} (h:zRE f n p w):Calls Tryz.prog 175 #[.pointer (some ⟨p,0,none⟩)] w fun e w'=>e = .returned (.bool (n == 0))∧w=w':=by
  rcases h with ⟨rfl,_,rest,T,h⟩ | ⟨mn,mx,g,L,cp,rest,T,⟨off,h,_⟩,_,_,_,hn,_⟩
  · exact zCb p 0 (by decide) w (by rw [zAp]; exact (DS.cells h).2.1)
  · exact zCb p n hn w (DS.cells h).2.1
theorem zB0 {kind:Int} {K:zAD kind} {most:Int} {xs:Bins} {S:Nat→Prop} {p:Nat} {w w':World} (h:K.St most xs S p w) (hb:Below w.heap.size w w'):zHr K most xs S p w w':=by
  have hf:=Fr.of_below hb
  exact ⟨K.fr most xs S p _ w w' h hf (fun k hk h2=>absurd (K.lt most xs S p w h k hk) (Nat.not_lt.2 h2)),hf.mono (fun k hk h2=>absurd hk (Nat.not_lt.2 h2))⟩
end Go.Proofs.YtllaekopaglolaaGreat
end
