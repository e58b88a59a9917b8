/-
  spec.Items: whether items are ones that are compared; what such items are.
-/
import Derived.Test.YtllaekopaglolaaGreatHBP
import Derived.Test.YtllaekopaglolaaGreatHBH
import Derived.Test.YtllaekopaglolaaGreatHBD
import Derived.Test.YtllaekopaglolaaGreatProg
import Derived.Test.YtllaekopaglolaaGreatHAA
import Derived.Deep.LoopGhost
import Derived.Deep.DeepMust
import Derived.Test.YtllaekopaglolaaGreatHBC
import Derived.Test.YtllaekopaglolaaGreatHBF
import Derived.Deep.AppendSrc
import Derived.Test.YtllaekopaglolaaGreatHBB
import Derived.StillTailTactics
section
namespace Go.Proofs.YtllaekopaglolaaGreat
open Go.RowKit Ieee
set_option exponentiation.threshold 3000
theorem zHK {c:Nat} (h:(FloatKind.f64.format.order c 4636737291354636288 == some .gt)=false):(FloatKind.f64.format.order c 4652007308841189376 == some .gt)=false:=by
  have e:nf 100=4636737291354636288:=by decide +kernel
  have h2':¬ FloatKind.f64.format.order c (nf 100)=some .gt:=by rw [e]; simpa using h
  obtain ⟨m1,i1,r1,p1,v1⟩:=zBf 100 (by decide)
  obtain ⟨m2,i2,r2,p2,v2⟩:=zBf 1000 (by decide)
  have q1:¬ (double.read c).order (double.read (nf 100))=some .gt:=h2'
  rw [r1] at q1
  rw [← zEn]
  show ((double.read c).order (double.read (nf 1000)) == some .gt)=false
  rw [r2]
  cases hr:double.read c with
  | nan s t=>rfl
  | infinity s=>rw [hr] at q1; cases s <;> simp_all [Datum.order]
  | number s m i =>
    obtain ⟨g1,g2,g3⟩:=zAT hr
    rw [hr] at q1
    rw [zCC _ _ _ _ _ _ g1 p1,v1] at q1
    rw [zCC _ _ _ _ _ _ g1 p2,v2]
    have hp:(0:Int)<2^1074:=by exact_mod_cast Nat.two_pow_pos 1074
    rcases Int.lt_trichotomy (sv s m i) (((1000:Nat):Int)*2^1074) with h | h | h
    · rw [Int.compare_eq_lt.2 h]; rfl
    · rw [Int.compare_eq_eq.2 h]; rfl
    · exact absurd (by rw [Int.compare_eq_gt.2 (by omega)]) q1
def okC1 (c:Nat):Bool :=
  !(FloatKind.f64.format.order c 4607182418800017408 == some .lt) && !(FloatKind.f64.format.order c 4636737291354636288 == some .gt) &&
  (((floatToIntVal .f64 c .i64).map fun n=>FloatKind.f64.format.order c (floatOfInt .f64 n) == some .eq) == some true)
theorem zPD (c:Nat) (hc:c<18446744073709551616) (h:okC1 c=true):∃ n,1≤n∧n≤100∧c=nf n:=by
  unfold okC1 at h
  simp only [Bool.and_eq_true,Bool.not_eq_true'] at h
  obtain ⟨⟨h1,h2⟩,h3⟩:=h
  obtain ⟨n,a,b,e⟩:=zR4 c hc (by unfold okC; simp only [Bool.and_eq_true,Bool.not_eq_true']; exact ⟨⟨h1,zHK h2⟩,h3⟩)
  refine ⟨n,a,?_,e⟩
  have e1:nf 100=4636737291354636288:=by decide +kernel
  rw [e,← e1,zBn n 100 (by omega) (by omega)] at h2
  by_cases hn:n≤100
  · exact hn
  · have:compare n 100 = .gt:=Nat.compare_eq_gt.2 (by omega)
    simp_all
def zDB (q:Nat × Nat):Bool:=zHW q.1&&okC1 q.2
def zDu (ps:List (Nat × Nat)):Bool:=ps.all zDB&&(decide (1≤ps.length)&&decide (ps.length≤60))
theorem zOP {ps:List (Nat × Nat)} (h:zDu ps=true) (hb:∀ p∈ps,p.1<18446744073709551616∧p.2<18446744073709551616):∃ xs:Items,ps=fi xs∧(∀ q∈xs,zAU q)∧1≤xs.length∧xs.length≤60:=by
  unfold zDu at h
  obtain ⟨h1,h2⟩:=Bool.and_eq_true_iff.1 h
  obtain ⟨h3,h4⟩:=Bool.and_eq_true_iff.1 h2
  have h3':=of_decide_eq_true h3
  have h4':=of_decide_eq_true h4
  suffices ∃ xs:Items,ps=fi xs∧(∀ q∈xs,zAU q) by
    obtain ⟨xs,e,a⟩:=this
    refine ⟨xs,e,a,?_,?_⟩ <;> (rw [e,zAK] at h3' h4'; assumption)
  clear h h2 h3 h4 h3' h4'
  induction ps with
  | nil=>exact ⟨[],rfl,(fun p hp=>by cases hp)⟩
  | cons p t ih =>
    obtain ⟨a1,a2⟩:=Bool.and_eq_true_iff.1 (show (zDB p&&t.all zDB)=true from h1)
    obtain ⟨xs,e,i1⟩:=ih (fun q hq=>hb q (List.mem_cons_of_mem _ hq)) a2
    obtain ⟨b1,b2⟩:=Bool.and_eq_true_iff.1 a1
    obtain ⟨n,n1,n2,n3⟩:=zPD p.2 (hb p List.mem_cons_self).2 b2
    refine ⟨(p.1,n) :: xs,?_,?_⟩
    · rw [show fi ((p.1,n) :: xs)=(p.1,nf n) :: fi xs from rfl,← e,← n3]
    · intro q hq
      rcases List.mem_cons.1 hq with rfl | hq
      · exact ⟨(hb p List.mem_cons_self).1,b1,n1,n2⟩
      · exact i1 q hq
def zTb (ps:List (Nat × Nat)) (w wr:World) (i:Value):Prop :=
  ∃ k,k≤ps.length∧i = .int .i64 (k:Int)∧Below w.heap.size w wr∧Hid ((ps.take k).all zDB=true)
theorem zSc {ps:List (Nat × Nat)} {k:Nat} (h:k<ps.length) (hb:zDB ps[k]=false):zDu ps=false:=by
  unfold zDu
  have:ps.all zDB=false:=by
    rw [← Bool.not_eq_true,List.all_eq_true]
    intro h2
    have:=h2 ps[k] (List.getElem_mem h)
    rw [hb] at this
    cases this
  rw [this]; rfl
set_option maxRecDepth 100000 in
set_option maxHeartbeats 800000 in
theorem zIH (ao:Option Addr) (cp:Nat) (ps:List (Nat × Nat)) (w:World) (hl:LieR w ao ps) (hn:ps.length≤2147483647) :
    Calls Tryz.prog 7 #[.slice ao ps.length cp] w fun e w'=>e = .returned (.bool (zDu ps))∧Below w.heap.size w w':=by
  have HL:=Lib.hid hl; clear hl
  go_enter Tryz.func7,Tryz.ntmps7
  go_wp2
  go_loopw [7] (fun i wr=>zTb ps w wr i) (fun i _=>ps.length - (intOf i).toNat)
  case atStart=>exact ⟨0,by omega,rfl,Below.refl _ _,rfl⟩
  case round =>
    obtain ⟨k,hk,rfl,hb,HK⟩:=hrel
    by_cases hlt:k<ps.length
    · rcases HL.out.later hb with h0 | ⟨g,off,rfl,hcell⟩
      · have:=congrArg List.length h0; rw [List.length_nil] at this; omega
      obtain ⟨c0,c1⟩:=hcell k hlt
      have hbad:=zSc hlt
      have hgood:zDB ps[k]=true→(ps.take (k+1)).all zDB=true:=by
        intro h
        rw [List.take_succ_eq_append_getElem hlt,List.all_append,HK.out]
        simp [h]
      generalize ps[k]=p at c0 c1 hbad hgood
      obtain ⟨x,c⟩:=p
      dsimp only at c0 c1
      have HG:=Lib.hid hgood
      have HD:=Lib.hid hbad
      have HB:=Lib.hid hb
      have hz:=hb.size
      clear hgood hbad hcell hb HK
      have hlo:∀ n,((wr.alloc (.cells #[.float .f64 x,.float .f64 c] 38)).drewN n).cell? ⟨wr.heap.size,1,none⟩=some (.float .f64 c):=fun n=>cell_of_row _ _ 1 _ _ _ (heap_alloc_new wr (.cells #[.float .f64 x,.float .f64 c] 38))
      have HF:=fun w=>zUo x w
      cases h2:zHW x
      · have hr:=HD.out (by simp [zDB,h2])
        have HR:=Lib.hid hr; clear hr HG HD
        rw [h2] at HF
        clear h2
        go_wp2_with (go_at_call 12; (with_reducible refine (HF _).mono ?_); rintro e w' ⟨rfl,nd,rfl⟩)
        go_ret
        exact ⟨by rw [HR.out]; rfl,zBJ (HB.out.alloc hz _) nd⟩
      rw [h2] at HF
      cases h3:(FloatKind.f64.format.order c 4607182418800017408 == some .lt)
      · cases h4:(FloatKind.f64.format.order c 4636737291354636288 == some .gt)
        · cases hf:floatToIntVal .f64 c .i64 with
          | none =>
            have hcn:∀ nd,∃ n,(convert 29 3 (.float .f64 c)).run Tryz.prog ((wr.alloc (.cells #[.float .f64 x,.float .f64 c] 38)).drewN nd) = .ok (.int .i64 n) ((wr.alloc (.cells #[.float .f64 x,.float .f64 c] 38)).drewN nd).drew:=fun nd=>zDx (P:=Tryz.prog) _ 29 3 .f64 .i64 c (by simp [Tryz.underlying29]) Tryz.underlying3 hf
            have HQ:=Lib.hid (fun n=>zPC h3 (zHK h4) hf (floatOfInt .f64 n))
            have hr:=HD.out (by simp [zDB,okC1,hf])
            have HR:=Lib.hid hr
            have HCN:=Lib.hid hcn
            clear hr HG HD hf h2 hcn
            go_wp2_with (go_at_call 12; (with_reducible refine (HF _).mono ?_); rintro e w' ⟨rfl,nd,rfl⟩; obtain ⟨n,hcn⟩:=HCN.out nd; have hq:=HQ.out n)
            go_ret
            exact ⟨by rw [HR.out]; rfl,(zBJ (HB.out.alloc hz _) nd).drew⟩
          | some n =>
            have hcn:=fun w=>run_convert_float_int (P:=Tryz.prog) w 29 3 .f64 .i64 c n (by simp [Tryz.underlying29]) Tryz.underlying3 hf
            cases hq:(FloatKind.f64.format.order c (floatOfInt .f64 n) == some .eq)
            · have hq2:(FloatKind.f64.format.order c (floatOfInt .f64 n) != some .eq)=true:=by simp [bne,hq]
              have hr:=HD.out (by simp [zDB,okC1,hf,hq])
              have HR:=Lib.hid hr; clear hr HG HD hf hq h2
              go_wp2_with (go_at_call 12; (with_reducible refine (HF _).mono ?_); rintro e w' ⟨rfl,nd,rfl⟩)
              go_ret
              exact ⟨by rw [HR.out]; rfl,zBJ (HB.out.alloc hz _) nd⟩
            · have hq2:(FloatKind.f64.format.order c (floatOfInt .f64 n) != some .eq)=false:=by simp [bne,hq]
              have hr:=HG.out (by
                have e1:okC1 c=true:=by
                  unfold okC1
                  rw [h3,h4,hf,Option.map_some,hq]
                  rfl
                simp [zDB,e1,h2])
              have HR:=Lib.hid hr
              clear hr HG HD hf hq h2
              go_wp2_with (go_at_call 12; (with_reducible refine (HF _).mono ?_); rintro e w' ⟨rfl,nd,rfl⟩)
              go_roundw
              case rel=>exact ⟨k+1,by omega,by go_num,zBJ (HB.out.alloc hz _) nd,HR.out⟩
              case measure=>simp [intOf]; omega
        · have hr:=HD.out (by simp [zDB,okC1,h4])
          have HR:=Lib.hid hr; clear hr HG HD h2
          go_wp2_with (go_at_call 12; (with_reducible refine (HF _).mono ?_); rintro e w' ⟨rfl,nd,rfl⟩)
          go_ret
          exact ⟨by rw [HR.out]; rfl,zBJ (HB.out.alloc hz _) nd⟩
      · have hr:=HD.out (by simp [zDB,okC1,h3])
        have HR:=Lib.hid hr; clear hr HG HD h2
        go_wp2_with (go_at_call 12; (with_reducible refine (HF _).mono ?_); rintro e w' ⟨rfl,nd,rfl⟩)
        go_ret
        exact ⟨by rw [HR.out]; rfl,zBJ (HB.out.alloc hz _) nd⟩
    · obtain rfl:k=ps.length:=by omega
      have HB:=Lib.hid hb
      have hall:=HK.out
      rw [List.take_length] at hall
      have hr:zDu ps=(decide (1≤(ps.length:Int))&&decide ((ps.length:Int)≤60)):=by unfold zDu; rw [hall,Bool.true_and]; congr 1 <;> (apply decide_eq_decide.2; omega)
      have HR:=Lib.hid hr
      clear hb hlt HK hall hr
      by_cases z1:(1:Int)≤ps.length
      · by_cases z2:(ps.length:Int)≤60
        · have hd:zDu ps=true:=by rw [HR.out]; simp [z1,z2]
          have HD:=Lib.hid hd; clear hd HR
          go_wp2
          go_ret
          exact ⟨by rw [HD.out]; rfl,HB.out⟩
        · have hd:zDu ps=false:=by rw [HR.out]; simp [z2]
          have HD:=Lib.hid hd; clear hd HR
          have z2':=Int.not_le.1 z2
          have hz:=decide_eq_false z2
          clear z2
          go_wp2
          go_ret
          exact ⟨by rw [HD.out]; rfl,HB.out⟩
      · have hd:zDu ps=false:=by rw [HR.out]; simp [z1]
        have HD:=Lib.hid hd; clear hd HR
        have z1':=Int.not_le.1 z1; clear z1
        go_wp2
        go_ret
        exact ⟨by rw [HD.out]; rfl,HB.out⟩
end Go.Proofs.YtllaekopaglolaaGreat
end
/-
  EncodeUvarint64: the buffer grows by the number's bytes,seven bits at a time.
-/
section
namespace Go.Proofs.YtllaekopaglolaaGreat
open Go.RowKit
theorem Tryz.infoU8:(Tryz.prog.info? 5).map (fun i=>(i.zero,i.size,i.bytes))=some (some (.int .u8 0),1,1):=by kernel_rfl
def encU:Nat→Nat→List Nat
  | 0,v=>[v % 256]
  | k+1,v=>if v<128 then [v] else (v % 128+128) :: encU k (v / 128)
theorem zXd (u:Nat):bits .or .u8 ((u:Int) % 256) 128=((u % 128+128:Nat):Int):=by
  have h:=u8_or_nat (u % 256) 128 (by omega) (by omega)
  have e:((u % 256:Nat):Int)=(u:Int) % 256:=by omega
  rw [e] at h
  rw [show ((128:Nat):Int)=128 from rfl] at h
  rw [h]
  have:u % 256 ||| 128=u % 128+128:=by
    have hb:∀ x:BitVec 8,x ||| 128#8=(x &&& 127#8)+128#8:=by decide
    have hx:=congrArg BitVec.toNat (hb (BitVec.ofNat 8 u))
    simp only [BitVec.toNat_or,BitVec.toNat_add,BitVec.toNat_and,BitVec.toNat_ofNat] at hx
    rw [show (127:Nat) % 2^8=127 from rfl,nat_mask7,show (2:Nat)^8=256 from rfl,show (128:Nat) % 256=128 from rfl] at hx
    omega
  rw [this]
set_option maxRecDepth 100000 in
set_option maxHeartbeats 400000 in
theorem zUs (p:Nat) (r:Option Nat) (v:Nat) (xs:List Nat) (w:World) (hv:v<18446744073709551616)
   (hb:Buf 40 5 w p r xs) (hn:xs.length<1000000000) :
    Calls Tryz.prog 26 #[.pointer (some ⟨p,0,none⟩),.int .u64 v] w fun e w'=>e = .returned (.tuple #[])∧zCd 40 5 w w' p r (xs++encU 8 v):=by
  obtain ⟨i0,hi,hz0,hz1,hz2⟩:=info_parts Tryz.infoU8
  go_enter Tryz.func26,Tryz.ntmps26
  go_wp2
  go_loopw [1,4] (fun u i wr=>∃ k u':Nat,∃ pre:List Nat,k≤8∧pre.length=k∧i = .int .i64 k∧u = .int .u64 u'∧u'<18446744073709551616∧encU 8 v=pre++encU (8 - k) u'∧zCd 40 5 w wr p r (xs++pre)) (fun _ i _=>8 - (intOf i).toNat)
  case atStart=>exact ⟨0,v,[],by omega,rfl,rfl,rfl,hv,rfl,by simpa using zCd.start hb⟩
  case round =>
    obtain ⟨k,u',pre,hk,hpl,rfl,rfl,hu,he,hgr⟩:=hrel
    obtain ⟨r',⟨s,hcell,hown,hrr⟩,hfr,hr'⟩:=id hgr
    have hc:=cell_of_one hcell
    have hf:=free_of_one hcell
    clear hgr
    have HE:=Lib.hid he; clear he
    have HC:=Lib.hid hcell; clear hcell
    have HR:=Lib.hid hrr; clear hrr
    have HF:=Lib.hid hfr; clear hfr
    have HX:=Lib.hid hr'; clear hr' hb
    have HU:=Lib.hid hu; clear hu
    have hl:(xs++pre).length<1000000010:=by simp; omega
    have HP:=Lib.hid hpl; clear hpl
    by_cases h8:k<8
    · by_cases h128:u'<128
      · go_wp2_with (at_builtin; refine zAi _ rfl _ _ 40 rfl 5 i0 (.int .u8 0) 1 1 Tryz.underlying40 hi hz0 hz1 hz2 rfl (by decide) s (xs++pre).length (cu8 (xs++pre)) rfl (hown.alloc _) ⟨wr.heap.size,0,none⟩ 1 1 [Value.int .u8 ((u':Int))] rfl rfl ?c1 ?c2 ?c3 ?c4 ?_)
        case c1=>exact cell_one_new _ _ _
        case c2=>intro u hu; simp at hu; subst hu; rfl
        case c3=>unfold maxLen; omega
        case c4=>omega
        intro v' w1 hown' hgrow hblk
        have hown2:w1.ownsRow 0 5 1 v' ((xs++pre).length+[u'].length) (cu8 (xs++pre)++cu8 [u']):=by
          simpa [cu8] using hown'
        have hc1:=zC0 (by decide) HC.out hown hgrow
        have g:=zHS (ys:=[u']) (by decide) HC.out hown HR.out HF.out HX.out hown2 hgrow hblk
        obtain ⟨ao,n1,cp1,hv1⟩:=zAR hown'
        rw [hv1] at g
        rw [hv1]
        have HG:=Lib.hid g
        clear hown' hown2 hgrow hblk g hv1
        have hcc:=cell_of_one hc1
        have hff:=free_of_one hc1
        clear hc1
        go_wp2
        go_end0
        refine ⟨rfl,?_⟩
        have e:encU 8 v=pre++[u']:=by
          rw [HE.out]; congr 1
          obtain ⟨j,hj⟩:∃ j,8 - k=j+1:=⟨7 - k,by omega⟩
          rw [hj,encU,if_pos h128]
        rw [e,← List.append_assoc]
        exact HG.out
      · go_wp2_with (at_builtin; refine zAi _ rfl _ _ 40 rfl 5 i0 (.int .u8 0) 1 1 Tryz.underlying40 hi hz0 hz1 hz2 rfl (by decide) s (xs++pre).length (cu8 (xs++pre)) rfl (hown.alloc _) ⟨wr.heap.size,0,none⟩ 1 1 [Value.int .u8 (bits .or .u8 ((u':Int) % 256) 128)] rfl rfl ?c1 ?c2 ?c3 ?c4 ?_)
        case c1=>exact cell_one_new _ _ _
        case c2=>intro u hu; simp at hu; subst hu; rfl
        case c3=>unfold maxLen; omega
        case c4=>omega
        intro v' w1 hown' hgrow hblk
        have hown2:w1.ownsRow 0 5 1 v' ((xs++pre).length+[u' % 128+128].length) (cu8 (xs++pre)++cu8 [u' % 128+128]):=by
          rw [zXd] at hown'; simpa [cu8] using hown'
        have hc1:=zC0 (by decide) HC.out hown hgrow
        have g:=zHS (ys:=[u' % 128+128]) (by decide) HC.out hown HR.out HF.out HX.out hown2 hgrow hblk
        obtain ⟨ao,n1,cp1,hv1⟩:=zAR hown'
        rw [hv1] at g
        rw [hv1]
        have HG:=Lib.hid g
        clear hown' hown2 hgrow hblk g hv1
        have hcc:=cell_of_one hc1
        have hff:=free_of_one hc1
        clear hc1
        go_wp2
        go_roundw
        case rel =>
          refine ⟨k+1,u' / 128,pre++[u' % 128+128],by omega,by have:=HP.out; simp; omega,by go_num,?_,by have:=HU.out; omega,?_,?_⟩
          · go_num
          · rw [HE.out,List.append_assoc]; congr 1
            obtain ⟨j,hj⟩:∃ j,8 - k=j+1:=⟨7 - k,by omega⟩
            rw [hj,encU,if_neg h128,show 8 - (k+1)=j from by omega]; rfl
          · rw [← List.append_assoc]; exact HG.out
        case measure=>simp [intOf]; omega
    · go_wp2_with (at_builtin; refine zAi _ rfl _ _ 40 rfl 5 i0 (.int .u8 0) 1 1 Tryz.underlying40 hi hz0 hz1 hz2 rfl (by decide) s (xs++pre).length (cu8 (xs++pre)) rfl (hown.alloc _) ⟨wr.heap.size,0,none⟩ 1 1 [Value.int .u8 ((u':Int) % 256)] rfl rfl ?c1 ?c2 ?c3 ?c4 ?_)
      case c1=>exact cell_one_new _ _ _
      case c2=>intro u hu; simp at hu; subst hu; rfl
      case c3=>unfold maxLen; omega
      case c4=>omega
      intro v' w1 hown' hgrow hblk
      have hown2:w1.ownsRow 0 5 1 v' ((xs++pre).length+[u' % 256].length) (cu8 (xs++pre)++cu8 [u' % 256]):=by
        simpa [cu8] using hown'
      have hc1:=zC0 (by decide) HC.out hown hgrow
      have g:=zHS (ys:=[u' % 256]) (by decide) HC.out hown HR.out HF.out HX.out hown2 hgrow hblk
      obtain ⟨ao,n1,cp1,hv1⟩:=zAR hown'
      rw [hv1] at g
      rw [hv1]
      have HG:=Lib.hid g
      clear hown' hown2 hgrow hblk g hv1
      have hcc:=cell_of_one hc1
      have hff:=free_of_one hc1
      clear hc1
      go_wp2
      go_end0
      refine ⟨rfl,?_⟩
      have e:encU 8 v=pre++[u' % 256]:=by
        rw [HE.out]; congr 1
        rw [show 8 - k=0 from by omega,encU]
      rw [e,← List.append_assoc]
      exact HG.out
end Go.Proofs.YtllaekopaglolaaGreat
end
/-
  works: it is true.
-/
section
namespace Go.Proofs.YtllaekopaglolaaGreat
open Go.RowKit
set_option maxRecDepth 100000 in
theorem zGq (pn:Nat) (v:Nat) (p:Nat) (r:Option Nat) (w:World) (hv:v<18446744073709551616) (hpn:w.cell? ⟨pn,0,none⟩=some (.int .u64 v)) (hb:Buf 40 5 w p r []) :
    Calls Tryz.prog 25 (#[.pointer (some ⟨p,0,none⟩)] ++ #[.pointer (some ⟨pn,0,none⟩)]) w fun e w'=>e = .returned (.tuple #[])∧zCd 40 5 w w' p r (encU 8 v):=by
  have H:=zUs p r v [] w hv hb (by simp)
  clear hb hv
  go_enter Tryz.func25,Tryz.ntmps25
  go_wp2_with fail
  refine H.mono ?_
  clear H
  rintro e w1 ⟨rfl,hg⟩
  have G:=Lib.hid hg; clear hg
  go_wp2
  go_end0
  exact ⟨rfl,by simpa using G.out⟩
set_option maxRecDepth 100000 in
theorem zHQ (v:Nat) (w:World) (hv:v<18446744073709551616) :
    Calls Tryz.prog 13 #[.int .u64 v] w fun e w'=>zF4 (encU 8 v) w e w':=by
  have hmf:∀ (fn:Fn) (first cap:Array Value) (w:World),(Instr.makeFunc fn first cap).run Tryz.prog w = .ok (.func fn first cap) w:=fun _ _ _ _=>rfl
  have H:=zTA 25 #[.pointer (some ⟨w.heap.size,0,none⟩)] (encU 8 v) (w.alloc (.cells #[.int .u64 v] 42))
    (fun p w=>zAf Tryz.func25 (by kernel_rfl) rfl _ w)
    (fun w1 p r hb hbel _=>zGq w.heap.size v p r w1 hv ((hbel.cell (p:=⟨w.heap.size,0,none⟩) (by simp)).trans (cell_of_one (heap_alloc_new w _))) hb)
  clear hv
  go_enter Tryz.func13,Tryz.ntmps13
  go_wp2_with fail
  refine H.mono ?_
  clear H
  rintro e w1 ⟨ao,n,c,rfl,⟨hby,hbel⟩⟩
  have G:Hid (zF4 (encU 8 v) w (.returned (.slice ao n c)) w1) :=
    ⟨ao,n,c,rfl,⟨⟨hby.1,fun k hk=>by have:=hby.2 k hk; simp at this; omega⟩,((Below.refl _ w).alloc (Nat.le_refl _) _).trans (hbel.mono (by simp))⟩⟩
  clear hby hbel
  go_wp2
  go_ret
  exact G.out
def zOn (w:World) (e:Ending) (w':World):Prop:=e = .returned (.bool true)∧Below w.heap.size w w'
set_option maxRecDepth 100000 in
theorem zRG (w:World):Calls Tryz.prog 8 #[] w fun e w'=>zOn w e w':=by
  have H:=zHQ 1 w (by decide)
  go_enter Tryz.func8,Tryz.ntmps8
  go_wp2_with fail
  refine H.mono ?_
  clear H
  rintro e w1 ⟨ao,n,c,rfl,⟨⟨hown,_⟩,hbel⟩⟩
  have hst:=zEk (P:=Tryz.prog) 40 5 9 Tryz.underlying40 Tryz.underlying5 Tryz.underlying9 hown
  have G:=Lib.hid hbel
  clear hown hbel
  go_wp2
  go_ret
  exact ⟨by show Ending.returned (.bool ((str (encU 8 1)).toList == [1]))=_; rw [show ((str (encU 8 1)).toList == [1])=true from by decide +kernel],G.out⟩
end Go.Proofs.YtllaekopaglolaaGreat
end
/-
  append(x[:len(x):len(x)],y...) of items.
-/
section
namespace Go.Proofs.YtllaekopaglolaaGreat
open Go.RowKit
theorem zGkI {w:World} {g off:Nat} {ps:List (Nat × Nat)} (h:∀ i,(h:i<ps.length)→w.cell? ⟨g,off+i*2,none⟩=some (.float .f64 ps[i].1)∧w.cell? ⟨g,off+i*2+1,none⟩=some (.float .f64 ps[i].2)) :
    ∀ j v,(qc ps)[j]?=some v→w.cell? ((⟨g,off,none⟩:Addr).add j)=some v:=by
  intro j v hj
  have hadd:(⟨g,off,none⟩:Addr).add j=⟨g,off+j,none⟩:=by unfold Addr.add; split <;> simp_all
  have hl:j<(qc ps).length:=(List.getElem?_eq_some_iff.1 hj).1
  have hl2:=hl
  rw [zBC] at hl2
  rw [hadd]
  obtain ⟨i,hi⟩:∃ i,i=j / 2:=⟨_,rfl⟩
  have hip:i<ps.length:=by omega
  obtain ⟨h0,h1⟩:=h i hip
  by_cases hj2:j=i*2
  · subst hj2
    rw [h0]
    rw [zId ps i hip] at hj
    exact hj
  · have hj3:j=i*2+1:=by omega
    subst hj3
    rw [show off+(i*2+1)=off+i*2+1 from by omega,h1]
    rw [zIc ps i hip] at hj
    exact hj
theorem zQf {P:Program} {e:TypeId} {z0:Value} (h:(P.info? e).map (fun i=>(i.zero,i.size,i.bytes))=some (some z0,2,16)):∃ i,P.info? e=some i∧i.zero=some z0∧i.size=2∧i.bytes=16:=by
  cases hi:P.info? e with
  | none=>rw [hi] at h; cases h
  | some i =>
    rw [hi] at h
    simp only [Option.map_some,Option.some.injEq,Prod.mk.injEq] at h
    exact ⟨i,rfl,h.1,h.2.1,h.2.2⟩
theorem zGU {P:Program} (w:World) (tS ty e:TypeId) (z0:Value) (ht:P.underlying tS=some (.slice e)) (hinfo:(P.info? e).map (fun i=>(i.zero,i.size,i.bytes))=some (some z0,2,16))
    (ao ap:Option Addr) (c:Nat) (xs ys:List (Nat × Nat)) (hx:LieR w ao xs) (hy:LieR w ap ys) (hs:xs.length+ys.length<1000000000) :
    ∃ a' c' w',(Builtin.append_ #[tS,tS] ty #[.slice ao xs.length xs.length,.slice ap ys.length c]).run P w = .ok (.slice a' (xs++ys).length c') w'∧LieR w' a' (xs++ys)∧Below w.heap.size w w':=by
  obtain ⟨i0,hi,hz0,hz1,hz2⟩:=zQf hinfo
  by_cases h0:ys=[]
  · subst h0
    refine ⟨ao,xs.length,w,?_,by rw [List.append_nil]; exact hx,Below.refl _ w⟩
    have hf:(Builtin.firstCells i0.size 0 (.slice ap 0 c)).run P w = .ok #[] w:=by
      cases ap <;> simp [Builtin.firstCells,loadCells,loadCellsFrom]
    cases ao <;> simp [Builtin.append_,run_underlying ht,sizeOf,typeInfo,hi,Builtin.lenOf,hf,storeCells]
  · rcases hy with hy | ⟨g2,off2,rfl,hy⟩
    · exact absurd hy h0
    have hpos:0<ys.length:=List.length_pos_iff.2 h0
    have hsrc:Src P i0.size tS (.slice (some ⟨g2,off2,none⟩) ys.length c) ys.length (qc ys) w:=Src.ofSlice w ht ⟨g2,off2,none⟩ ys.length c (qc ys) (by rw [zBC,hz1]) (zGkI hy) (zFC ys)
    have hold:(Builtin.firstCells i0.size xs.length (.slice ao xs.length xs.length)).run P w.drew = .ok (qc xs).toArray w.drew:=by
      rcases hx with hx | ⟨g,off,rfl,hx⟩
      · subst hx
        cases ao <;> simp [Builtin.firstCells,loadCells,loadCellsFrom,qc]
      · exact run_firstCells_some w.drew i0.size xs.length ⟨g,off,none⟩ xs.length xs.length (qc xs) (by rw [zBC,hz1]) (zGkI hx)
    have hr:=run_append_grow_src (P:=P) w tS tS ty e i0 z0 ht hi hz0 ao xs.length xs.length (qc xs) hold (.slice (some ⟨g2,off2,none⟩) ys.length c) ys.length (qc ys) hsrc (by omega) (by omega) (growslice_fits (by omega) (by rw [hz2]; omega))
    refine ⟨_,_,_,by rw [List.length_append]; exact hr,.inr ⟨w.heap.size,0,rfl,fun i hlt=>?_⟩,((Below.refl _ w).drew).alloc (Nat.le_refl _) _⟩
    rw [← zBr]
    have hget:∀ k v,(qc (xs++ys))[k]?=some v→(w.drew.alloc (.cells ((qc (xs++ys)).toArray++Builtin.zeroCells z0.cells (grownCap w (xs.length+ys.length) xs.length e - (xs.length+ys.length))) e)).cell? ⟨w.heap.size,k,none⟩=some v:=fun k v hk=>by
      rw [cell_of_row _ w.heap.size k _ _ _ (heap_alloc_new w.drew _)]
      have hkl:k<(qc (xs++ys)).length:=(List.getElem?_eq_some_iff.1 hk).1
      rw [Array.getElem?_append_left (by simpa using hkl)]
      simpa using hk
    rw [Nat.zero_add]
    exact ⟨hget _ _ (zId _ i hlt),hget _ _ (zIc _ i hlt)⟩
theorem zGm {P:Program} {o:Oper} {a:Act} {K:Act→World→Prop} {Q:Exit→Act→World→Prop} (w:World) (s x:Operand) (tS e:TypeId) (z0:Value)
    (ho:o.op = .call { callee:=.builtin .append,args:=#[s,x],argTypes:=#[tS,tS] }) (ht:P.underlying tS=some (.slice e)) (hinfo:(P.info? e).map (fun i=>(i.zero,i.size,i.bytes))=some (some z0,2,16))
    (ao ap:Option Addr) (n m c:Nat) (xs ys:List (Nat × Nat)) (hn:n=xs.length) (hm:m=ys.length) (hsv:a.eval s = .slice ao n n) (hxv:a.eval x = .slice ap m c) (hx:LieR w ao xs) (hy:LieR w ap ys) (hs:xs.length+ys.length<1000000000)
    (h:∀ a' c' w',LieR w' a' (xs++ys)→Below w.heap.size w w'→K (a.put o.dst (.slice a' (xs++ys).length c')) w'):o.wp P a w K Q:=by
  subst hn hm
  obtain ⟨a',c',w',hr,h2,h3⟩:=zGU (P:=P) w tS o.type e z0 ht hinfo ao ap c xs ys hx hy hs
  unfold Oper.wp execOp
  simp only [ho,resolve,invoke,builtin,Sem.run_bind,Sem.run_pure,Result.andThen_ok,List.map_toArray,List.map_cons,List.map_nil,hsv,hxv,hr]
  exact h a' c' w' h2 h3
theorem zGw {P:Program} (t e:TypeId) (ht:P.underlying t=some (.slice e)) (ao:Option Addr) (n c m:Nat) (h:Int) (h0:h=(m:Int)) (h1:m≤c) {z:Nat} (hz:∀ w,(sizeOf e).run P w = .ok z w) (w:World) :
    (Instr.slice t (.slice ao n c) none (some (.int .i64 h)) (some (.int .i64 h))).run P w = .ok (.slice ao m m) w:=by
  subst h0
  have hh:(m:Int)≤(c:Int):=by omega
  simp [Instr.slice,run_underlying ht,Instr.sliceBounds,go_sem,hh,hz]
theorem zEh {P:Program} {ops:Array Oper} {rest:List Oper} {o:Oper} {a:Act} {Q:Exit→Act→World→Prop} (w:World) (hw:Region.wanted o (yielded ops a.tmps)=true) (s x:Operand) (tS e:TypeId) (z0:Value)
    (ho:o.op = .call { callee:=.builtin .append,args:=#[s,x],argTypes:=#[tS,tS] }) (ht:P.underlying tS=some (.slice e)) (hinfo:(P.info? e).map (fun i=>(i.zero,i.size,i.bytes))=some (some z0,2,16))
    (ao ap:Option Addr) (n m c:Nat) (xs ys:List (Nat × Nat)) (hn:n=xs.length) (hm:m=ys.length) (hsv:a.eval s = .slice ao n n) (hxv:a.eval x = .slice ap m c) (hx:LieR w ao xs) (hy:LieR w ap ys) (hs:xs.length+ys.length<1000000000)
    (h:∀ a' c' w',LieR w' a' (xs++ys)→Below w.heap.size w w'→wpList P ops Q rest (a.put o.dst (.slice a' (xs++ys).length c')) w'):wpList P ops Q (o :: rest) a w :=
  wpList_step fun _ hK=>by
    rw [if_pos hw]
    exact zGm w s x tS e z0 ho ht hinfo ao ap n m c xs ys hn hm hsv hxv hx hy hs fun a' c' w' h2 h3=>hK _ _ (h a' c' w' h2 h3)
end Go.Proofs.YtllaekopaglolaaGreat
end
/-
  ForEach: what is handed to it,and what a store of a kind is to do with it.
-/
section
namespace Go.Proofs.YtllaekopaglolaaGreat
open Go.RowKit
structure zJF (F:FuncId) (bx:Nat) (ks:Bins) (J:Bins→(Nat→Prop)→World→Prop):Prop where
  enter:∀ args w,(callFunc F args).run Tryz.prog w = .ok (.enter F args) w
  call:∀ done x c T w,J done T w→(done++[(x,c)]) <+: ks→Calls Tryz.prog F #[.int .i64 x,.float .f64 (nf c),.pointer (some ⟨bx,0,none⟩)] w fun e w'=>e = .returned (.bool false)∧∃ T',J (done++[(x,c)]) T' w'∧Fr T w w'∧∀ b,T' b→T b∨w.heap.size≤b
  fr:∀ done T w w' U,J done T w→Fr U w w'→(∀ b,T b→¬ U b)→J done T w'
  lt:∀ done T w,J done T w→∀ b,T b→b<w.heap.size
def zTe {kind:Int} (K:zAD kind) (most:Int) (ys:Bins) (S:Nat→Prop) (p:Nat) (J:Bins→(Nat→Prop)→World→Prop) (T:Nat→Prop) (w:World) (e:Ending) (w':World):Prop :=
  e = .returned (.tuple #[])∧K.St most ys S p w'∧∃ T',J (zBz kind most ys) T' w'∧Fr (fun b=>S b∨T b) w w'∧(∀ b,T' b→T b∨w.heap.size≤b)
structure zOo {kind:Int} (K:zAD kind) where
  fE:FuncId
  mE:∀ p w,(method 339 K.T (.pointer (some ⟨p,0,none⟩)) "ForEach").run Tryz.prog w = .ok (fE,.pointer (some ⟨p,0,none⟩)) w
  eE:∀ args w,(callFunc fE args).run Tryz.prog w = .ok (.enter fE args) w
  cE:∀ most ys S p F bx J T w,K.St most ys S p w→Few kind most ys→zJF F bx (zBz kind most ys) J→J [] T w→(∀ b,T b→¬ S b) →
    Calls Tryz.prog fE #[.pointer (some ⟨p,0,none⟩),.func (.func F) #[] #[.pointer (some ⟨bx,0,none⟩)]] w fun e w'=>zTe K most ys S p J T w e w'
end Go.Proofs.YtllaekopaglolaaGreat
end
/-
  ForEach of a sparse store.
-/
section
namespace Go.Proofs.YtllaekopaglolaaGreat
open Go.RowKit Go.Maps
theorem zCP {w w':World} (h:Below w.heap.size w w'):Fr (fun _=>False) w w':=(Fr.of_below h).mono (fun _ hi h2=>absurd hi (Nat.not_lt.2 h2))
def zVJ (K:Bins) (J:Bins→(Nat→Prop)→World→Prop) (T:Nat→Prop) (w wr:World) (i:Value):Prop :=
  ∃ (k:Nat) (T':Nat→Prop),k≤K.length∧i = .int .i64 (k:Int)∧J (K.take k) T' wr∧Fr T w wr∧(∀ b,T' b→T b∨w.heap.size≤b)
set_option maxRecDepth 100000 in
set_option maxHeartbeats 400000 in
theorem zS1 (f:Int→Nat) (p b n:Nat) (K:Bins) (w:World) (h:zDY f p b n w) (hn:n≤1000000) (hz:∀ i,i < -10000∨10000<i→f i=0) (hs:tot2 f<1000000000) (hK1:Asc K) (hK2:Pos K) (hK3:cntB K=f)
   {F:FuncId} {bx:Nat} {J:Bins→(Nat→Prop)→World→Prop} {T:Nat→Prop} (hC:zJF F bx K J) (hJ:J [] T w) (hTp:¬ T p) (hTb:¬ T b) :
    Calls Tryz.prog 200 #[.pointer (some ⟨p,0,none⟩),.func (.func F) #[] #[.pointer (some ⟨bx,0,none⟩)]] w fun e w'=>e = .returned (.tuple #[])∧∃ T',J K T' w'∧Fr T w w'∧(∀ b,T' b→T b∨w.heap.size≤b):=by
  obtain ⟨hp,⟨D,ho,hm⟩,hne⟩:=id h
  have d0:=cell_of_row _ _ 0 _ _ _ hp
  have HSO:=zFj f D b n w ho hm (Nat.le_trans ho.size_le hn)
  have hlt0:=hC.lt [] T w hJ
  have HH:=Lib.hid h
  have HZ:=Lib.hid hz
  have HS:=Lib.hid hs
  have HC:=Lib.hid hC
  have HJ:=Lib.hid hJ
  have HTP:=Lib.hid hTp
  have HTB:=Lib.hid hTb
  have HBL:=Lib.hid ho.lt
  have HK:Hid (Asc K∧Pos K∧cntB K=f):=⟨hK1,hK2,hK3⟩
  have HLT0:=Lib.hid hlt0
  have hE:=hC.enter
  clear h hp ho hm hne hz hs hC hJ hTp hTb hK1 hK2 hK3 hlt0
  go_enter Tryz.func200,Tryz.ntmps200
  go_wp2_with fail
  refine HSO.mono ?_
  clear HSO
  rintro e w1 ⟨zs,ar,cr,rfl,hrow,hblk,hbel,hnd,hmem,hsort⟩
  have hKe:zAh f zs=K:=zNY (zF1 hnd hsort) (zCn hmem) (zBQ hmem HZ.out) HK.out.1 HK.out.2.1 (by rw [zB3 hnd hmem,HK.out.2.2])
  obtain ⟨hlie,hgl⟩:=zIr hrow
  have hf1:=zCP hbel
  have hsp1:=HH.out.fr hf1 (fun h=>h) (fun h=>h)
  have hj1:=HC.out.fr [] T w w1 _ HJ.out hf1 (fun _ _ h=>h)
  have hlen:zs.length<1000000000:=by
    have h1:=zFn (zCn hmem)
    rw [zBG,← zAy (zBQ hmem HZ.out),zB3 hnd hmem] at h1
    have:=HS.out; omega
  have hkl:K.length=zs.length:=by rw [← hKe,zBG]
  have hget:∀ k,(h:k<zs.length)→(h2:k<K.length)→K[k]=(zs[k],f zs[k]):=fun k h h2=>by
    have e:=zIW f zs k h
    subst hKe; exact e
  have HR:Hid (∀ i∈zs,-10000≤i∧i≤10000):=fun i hi=>by
    have:=zBQ hmem HZ.out (i,f i) (List.mem_map.2 ⟨i,hi,rfl⟩); exact this
  have HSP1:=Lib.hid hsp1
  have HF1:=Lib.hid hf1
  have HJ1:=Lib.hid hj1
  have HL:=Lib.hid hlie
  have HGET:=Lib.hid hget
  have HBLK:=Lib.hid hblk
  have HKL:=Lib.hid hkl
  have hw1:=hbel.size
  clear hrow hbel hnd hmem hsort hlie hf1 hsp1 hj1 d0 hblk hgl hKe hget hkl
  go_wp2
  go_loopw [13] (fun i wr=>zVJ K J T w1 wr i) (fun i _=>zs.length - (intOf i).toNat)
  case atStart=>exact ⟨0,T,Nat.zero_le _,rfl,by rw [List.take_zero]; exact HJ1.out,Fr.refl _ _,fun b hb=>.inl hb⟩
  case round =>
    obtain ⟨j,T1,hj,rfl,hj1,hfr,hT1⟩:=hrel
    have hkl:=HKL.out
    by_cases hlt:j<zs.length
    · rcases HL.out with e0 | ⟨g,rfl,hcell⟩
      · rw [e0] at hlt; exact absurd hlt (Nat.not_lt_zero _)
      have hgT:¬ T g:=fun h=>by
        have h1:=HBLK.out g rfl
        have h2:=HLT0.out g h
        omega
      have c0:=hfr.cell (p:=⟨g,j,none⟩) (hcell j hlt) hgT
      have hxr:=HR.out zs[j] (List.getElem_mem hlt)
      obtain ⟨hp,⟨D,ho,hm⟩,hne⟩:=HSP1.out.fr hfr HTP.out HTB.out
      have d0:=cell_of_row _ _ 0 _ _ _ hp
      have hlook:=zGe ho hm zs[j] (by omega) (by omega)
      have htk:K.take (j+1)=K.take j++[(zs[j],f zs[j])]:=by rw [List.take_succ_eq_append_getElem (by omega),HGET.out j hlt (by omega)]
      have hpre:(K.take j++[(zs[j],f zs[j])]) <+: K:=by rw [← htk]; exact List.take_prefix _ _
      have hcall:=fun w5 h=>HC.out.call (K.take j) zs[j] (f zs[j]) T1 w5 h hpre
      rw [← htk] at hcall
      have HCC:=hcall wr hj1
      obtain ⟨u,hu⟩:∃ u,u=nf (f zs[j]):=⟨_,rfl⟩
      obtain ⟨x,hx⟩:∃ x,x=zs[j]:=⟨_,rfl⟩
      rw [← hu] at hlook HCC
      rw [← hx] at c0 hlook HCC
      have HFR:=Lib.hid hfr
      have HT1:=Lib.hid hT1
      clear hu hx hcall hpre htk hp ho hm hne hj1 hfr hT1 hcell hgT hxr hkl
      go_wp2_with (go_at_fn F; (with_reducible refine HCC.mono ?_); rintro e w2 ⟨rfl,T2,hj2,hf2,hT2⟩; have HJ2:=Lib.hid hj2; have HF2:=Lib.hid hf2; have HT2:=Lib.hid hT2; clear hj2 hf2 hT2 HCC d0 hlook c0)
      go_roundw
      case rel =>
        have hs0:=HFR.out.size
        have hff:Fr T w1 w2:=HFR.out.trans HF2.out (fun _ _ h=>h) (fun i hi h=>(HT1.out i h).elim id (fun h2=>by omega))
        refine ⟨j+1,T2,by have:=HKL.out; omega,by go_num,HJ2.out,hff,fun b hb=>?_⟩
        rcases HT2.out b hb with h | h
        · exact HT1.out b h
        · right; omega
      case measure=>simp [intOf]; omega
    · obtain rfl:j=K.length:=by omega
      rw [List.take_length] at hj1
      have HJ2:=Lib.hid hj1
      have HFR:=Lib.hid hfr
      have HT1:=Lib.hid hT1
      have hlt2:¬ (K.length:Int)<(zs.length:Int):=by omega
      clear hj1 hfr hT1 hlt hkl hj
      go_wp2
      go_end0
      refine ⟨rfl,T1,HJ2.out,HF1.out.trans HFR.out (fun _ _ h=>h.elim) (fun _ _ h=>h),fun b hb=>?_⟩
      rcases HT1.out b hb with h | h
      · exact .inl h
      · right; omega
end Go.Proofs.YtllaekopaglolaaGreat
end
/-
  ForEach,for every kind of store.
-/
section
namespace Go.Proofs.YtllaekopaglolaaGreat
open Go.RowKit
theorem zS0 {kind:Int} {K:zAD kind} {most:Int} {ys:Bins} {S:Nat→Prop} {p:Nat} {J:Bins→(Nat→Prop)→World→Prop} {T:Nat→Prop} {w w':World} {e:Ending} (h:K.St most ys S p w) (hd:∀ b,T b→¬ S b)
   (hx:e = .returned (.tuple #[])∧∃ T',J (zBz kind most ys) T' w'∧Fr T w w'∧(∀ b,T' b→T b∨w.heap.size≤b)):zTe K most ys S p J T w e w':=by
  obtain ⟨rfl,T',h1,h2,h3⟩:=hx
  exact ⟨rfl,K.fr most ys S p T w w' h h2 (fun k hk h=>hd k h hk),T',h1,h2.mono (fun _ _ h=>.inr h),h3⟩
def zXi:zOo zHM where
  fE:=200
  mE:=fun _ _=>by kernel_rfl
  eE:=enters_of Tryz.func200 (by kernel_rfl) rfl
  cE:=fun most ys S p F bx J T w h hf hC hJ hd=>by
    obtain ⟨b,h1,h2⟩:=id h
    exact (zS1 (cntB ys) p b ys.length (zBz 1 most ys) w h1 (by have:=hf.len; omega) (fun i hi=>zBy hf.inR i hi) (by rw [zAy hf.inR]; have:=hf.tot; omega) (zUZ 1 most ys) (zOL 1 most hf.pos) (zCz (by decide) (by decide) ys) hC hJ (fun h=>hd p h ((h2 p).2 (.inl rfl))) (fun h=>hd b h ((h2 b).2 (.inr rfl)))).mono fun e w' he=>zS0 h hd he
end Go.Proofs.YtllaekopaglolaaGreat
end
