/-
  Of one kind: a store with pages merged into a store with pages.
-/
import Derived.Test.YtnmbjalojgccmaaGreatMH
section
namespace Go.Proofs.YtnmbjalojgccmaaGreat
open Go.RowKit

/-- The counts with those of the other store below x. -/
def accP (G f : Int → Nat) (x : Int) : Int → Nat := fun i => G i + upTo f x i
theorem accP_step (G f : Int → Nat) (x : Int) : accP G f (x + 1) = addAt (accP G f x) x (f x) := by
  unfold accP
  rw [upTo_step]
  funext i
  simp only [addAt]
  split <;> omega

theorem Paged.lt {tg : Int} {G : Int → Nat} {bs : List Int} {q : Int → Option (Nat × Nat)} {mp : Int} {n p : Nat} {bufv pgs : Value} {w : World} (h : Paged tg G bs q mp n p bufv pgs w) {k : Nat} (hk : PFoot q p bufv pgs k) : k < w.heap.size := by
  rcases hk with e | e | e | ⟨x, cp, e⟩
  · rw [e]; exact h.core.fields.lt
  · exact (h.core.buf.lt k e).2
  · exact (h.core.row.lt k e).2
  · exact (h.core.page x k cp e).lt

def MPHeld (tg : Int) (G' : Int → Nat) (bs : List Int) (q0 : Int → Option (Nat × Nat)) (p : Nat) (bufv pgs0 : Value) (w wr : World) (n0 : Nat) (b : Bool) : Prop :=
  ∃ q' mp' n' pgs', Paged tg G' bs q' mp' n' p bufv pgs' wr ∧ Fr (PFoot q0 p bufv pgs0) w wr ∧ (∀ k, PFoot q' p bufv pgs' k → PFoot q0 p bufv pgs0 k ∨ w.heap.size ≤ k) ∧ (b = true → n' = n0)
def MP1 (tg : Int) (G Go : Int → Nat) (mpo : Int) (no : Nat) (bs : List Int) (q0 : Int → Option (Nat × Nat)) (p : Nat) (bufv pgs0 : Value) (w wr : World) (n0 : Nat) (i : Value) : Prop :=
  ∃ j : Nat, j ≤ no ∧ i = .int .i64 (j : Int) ∧ MPHeld tg (accP G Go (32 * (mpo + (j : Int)))) bs q0 p bufv pgs0 w wr n0 (j == 0)
def MP2 (tg : Int) (G Go : Int → Nat) (pi : Int) (bs : List Int) (q' : Int → Option (Nat × Nat)) (mp' : Int) (n' p : Nat) (bufv pgs' : Value) (b : Nat) (w wr : World) (i : Value) : Prop :=
  ∃ k : Nat, k ≤ 32 ∧ i = .int .i64 (k : Int) ∧ Paged tg (accP G Go (32 * pi + (k : Int))) bs q' mp' n' p bufv pgs' wr ∧ Fr (fun x => x = b) w wr
/-- The counts with k of the indexes of a list. -/
def MP3 (F : Int → Nat) (bso : List Int) (L0 : Nat) (q0 : Int → Option (Nat × Nat)) (p : Nat) (bufv pgs0 : Value) (w wr : World) (n0 : Nat) (b0 : Bool) (i : Value) : Prop :=
  ∃ j : Nat, j ≤ bso.length ∧ i = .int .i64 (j : Int) ∧ ∃ tg' G' bs' q' mp' n' bufv' pgs', Paged tg' G' bs' q' mp' n' p bufv' pgs' wr ∧ both G' bs' = (fun x => F x + cntI (bso.take j) x) ∧ InI bs' ∧ bs'.length ≤ L0 + j ∧ Fr (PFoot q0 p bufv pgs0) w wr ∧ (∀ k, PFoot q' p bufv' pgs' k → PFoot q0 p bufv pgs0 k ∨ w.heap.size ≤ k) ∧ ((b0 && j == 0) = true → n' = n0)

/-- Behind the merge of two stores with pages. -/
def MergedP (F : Int → Nat) (L : Nat) (q0 : Int → Option (Nat × Nat)) (p : Nat) (bufv pgs0 : Value) (w : World) (n0 : Nat) (b0 : Bool) (e : Ending) (w' : World) : Prop :=
  ∃ tg' G' bs' q' mp' n' bufv' pgs', e = .returned (.tuple #[]) ∧ Paged tg' G' bs' q' mp' n' p bufv' pgs' w' ∧ both G' bs' = F ∧ InI bs' ∧ bs'.length ≤ L ∧ Fr (PFoot q0 p bufv pgs0) w w' ∧ (∀ k, PFoot q' p bufv' pgs' k → PFoot q0 p bufv pgs0 k ∨ w.heap.size ≤ k) ∧ (b0 = true → n' = n0)

theorem MPHeld.next {tg : Int} {A2 : Int → Nat} {bs : List Int} {q0 q' q2 : Int → Option (Nat × Nat)} {mp2 pi : Int} {n2 p b cp n0 : Nat} {bufv pgs0 pgs' pgs2 : Value} {w wr w3 wr2 : World} (hF : Fr (PFoot q0 p bufv pgs0) w wr) (hN : ∀ k, PFoot q' p bufv pgs' k → PFoot q0 p bufv pgs0 k ∨ w.heap.size ≤ k)
   (F1 : Fr (PFoot q' p (.slice none 0 0) pgs') wr w3) (N1 : ∀ k, PFoot q2 p bufv pgs2 k → PFoot q' p bufv pgs' k ∨ wr.heap.size ≤ k) (hq : q2 pi = some (b, cp)) (F2 : Fr (fun x => x = b) w3 wr2) (hP : Paged tg A2 bs q2 mp2 n2 p bufv pgs2 wr2) : MPHeld tg A2 bs q0 p bufv pgs0 w wr2 n0 false := by
  have hs := hF.size
  have hall : ∀ k, PFoot q2 p bufv pgs2 k → PFoot q0 p bufv pgs0 k ∨ w.heap.size ≤ k := fun k hk => (N1 k hk).elim (hN k) (fun h => .inr (by omega))
  refine ⟨q2, mp2, n2, pgs2, hP, (hF.trans F1 (fun _ _ h => h) (fun i hi h => (hN i h.more).elim id (fun h2 => by omega))).trans F2 (fun _ _ h => h) (fun i hi h => ?_), hall, fun h => by cases h⟩
  subst h
  exact (hall i (.inr (.inr (.inr ⟨pi, cp, hq⟩)))).elim id (fun h2 => by omega)
theorem MPHeld.fr {tg : Int} {A : Int → Nat} {bs : List Int} {q0 : Int → Option (Nat × Nat)} {p n0 : Nat} {bufv pgs0 : Value} {w wr : World} {b : Bool} (h : MPHeld tg A bs q0 p bufv pgs0 w wr n0 b) : Fr (PFoot q0 p bufv pgs0) w wr := by
  obtain ⟨_, _, _, _, _, h, _⟩ := h; exact h
theorem MPHeld.weak {tg : Int} {A : Int → Nat} {bs : List Int} {q0 : Int → Option (Nat × Nat)} {p n0 : Nat} {bufv pgs0 : Value} {w wr : World} {b : Bool} (h : MPHeld tg A bs q0 p bufv pgs0 w wr n0 b) : MPHeld tg A bs q0 p bufv pgs0 w wr n0 false := by
  obtain ⟨a1, a2, a3, a4, a5, a6, a7, _⟩ := h; exact ⟨a1, a2, a3, a4, a5, a6, a7, fun h => by cases h⟩
theorem cntI_take (l : List Int) (j : Nat) (x : Int) : cntI (l.take j) x ≤ cntI l x := by
  conv => rhs; rw [← List.take_append_drop j l]
  rw [cntI_append]; omega

set_option maxRecDepth 100000 in
set_option maxHeartbeats 4000000 in
theorem mergeP_core {tg tgo : Int} (G Go : Int → Nat) (bs bso : List Int) (q qo : Int → Option (Nat × Nat)) (mp mpo : Int) (n no p r : Nat) (bufv pgs bufo pgso : Value) (w : World) (h : Paged tg G bs q mp n p bufv pgs w) (ho : Paged tgo Go bso qo mpo no r bufo pgso w)
   (hd : ∀ k, PFoot q p bufv pgs k → ¬ PFoot qo r bufo pgso k) (hI : InI bs) (hIo : InI bso) (hS : ∀ x, both G bs x + both Go bso x < 1000000000) (hL : bs.length + bso.length < 1000000000) :
    Calls Tryz.prog 307 #[.pointer (some ⟨p, 0, none⟩), .iface 134 (.pointer (some ⟨r, 0, none⟩))] w fun e w' => MergedP (fun x => both G bs x + both Go bso x) (bs.length + bso.length) q p bufv pgs w n (no == 0 && bso.length == 0) e w' := by
  have hmf : ∀ (fn : Fn) (first cap : Array Value) (w : World), (Instr.makeFunc fn first cap).run Tryz.prog w = .ok (.func fn first cap) w := fun _ _ _ _ => rfl
  have hta := fun w => run_assert_same (P := Tryz.prog) 134 70 177 (.pointer (some ⟨r, 0, none⟩)) Tryz.underlying134 w
  obtain ⟨ao, n1, cb, rfl⟩ := owns_slice ho.core.buf
  obtain rfl := owns_len ho.core.buf
  obtain ⟨aq, n2, cq, hpgs⟩ := owns_slice ho.core.row
  have hnq : n2 = no := by have h2 := ho.core.row; rw [hpgs] at h2; exact owns_len h2
  subst hnq
  obtain ⟨no, hn2⟩ : ∃ no, no = n2 := ⟨_, rfl⟩
  subst hn2
  obtain ⟨w1, hw1⟩ : ∃ w1, w1 = w.alloc (.cells #[.pointer (some ⟨p, 0, none⟩)] 134) := ⟨_, rfl⟩
  have hf01 : Fr (fun _ => False) w w1 := by rw [hw1]; exact (Fr.refl _ w).alloc _
  have hs1 : w1.heap.size = w.heap.size + 1 := by rw [hw1]; simp
  have hbx : w1.heap[w.heap.size]? = some (.cells #[.pointer (some ⟨p, 0, none⟩)] 134 (0, 0)) := by rw [hw1]; exact heap_alloc_new w _
  have hlt : ∀ k, PFoot q p bufv pgs k → k < w.heap.size := fun k hk => h.lt hk
  have hlto : ∀ k, PFoot qo r (.slice ao bso.length cb) pgso k → k < w.heap.size := fun k hk => ho.lt hk
  have h1 := h.fr hf01 (fun _ _ h => h)
  have ho1 := ho.fr hf01 (fun _ _ h => h)
  obtain ⟨d0, d1, d2, d3, d4, d5⟩ := h1.core.fields.cells
  obtain ⟨r0, r1, r2, r3, r4, r5⟩ := ho1.core.fields.cells
  have bx0 := cell_of_one hbx
  have hle0 : bso.length < 1000000000 := by omega
  have hnb : no < 1000000000 := by rcases ho.bd with ⟨h1, h2, _⟩ | h2 <;> omega
  have HBD : Hid ((no = 0 ∧ mpo = 9223372036854775807) ∨ (0 < no ∧ -330 ≤ mpo ∧ mpo + (no : Int) ≤ 330)) := by rcases ho.bd with ⟨h1, h2, _⟩ | h2; exact .inl ⟨h1, h2⟩; exact .inr h2
  have HH := Lib.hid h
  have HHO := Lib.hid ho
  have HP := Lib.hid hpgs
  have HD := Lib.hid hd
  have HLT := Lib.hid hlt
  have HLTO := Lib.hid hlto
  have HIO := Lib.hid hIo
  have HII := Lib.hid hI
  have HSS := Lib.hid hS
  have HS1 := Lib.hid hs1
  have HF01 := Lib.hid hf01
  have HBX := Lib.hid hbx
  have hgg : ∀ x y, accP G Go y x + Go x < 9007199254740992 := fun x y => by
    have h1 := hS x; have h2 : both Go bso x = Go x + cntI bso x := rfl; have h3 : both G bs x = G x + cntI bs x := rfl
    show G x + (if x < y then Go x else 0) + Go x < _
    split <;> omega
  have HGG := Lib.hid hgg
  have HH1 := Lib.hid h1
  have HO1 := Lib.hid ho1
  have HLB := Lib.hid hL
  rw [hw1] at d4 r4 bx0
  have HW1 := Lib.hid hw1
  clear h ho hpgs hd hlt hlto hI hIo hS hw1 hs1 hf01 hbx h1 ho1 hgg hL d0 d1 d2 d3 d5 r0 r1 r2 r3 r5
  go_enter Tryz.func307, Tryz.ntmps307
  go_wp2
  go_quiet (fail)
  obtain ⟨w2, hw2⟩ : ∃ w2, w2 = (w.alloc (.cells #[.pointer (some ⟨p, 0, none⟩)] 134)).drewN nq := ⟨_, rfl⟩
  rw [← hw2]
  rw [← HW1.out] at hw2
  have HF12 : Hid (Fr (fun _ => False) w1 w2) := by rw [hw2]; exact (Fr.refl _ w1).drewN nq
  have HH2 := Lib.hid (HH1.out.fr HF12.out (fun _ _ h => h))
  have HO2 := Lib.hid (HO1.out.fr HF12.out (fun _ _ h => h))
  have HBX2 := Lib.hid (HF12.out.heap HBX.out (fun h => h))
  have HS2 : Hid (w2.heap.size = w.heap.size + 1) := by rw [hw2]; exact HS1.out
  have HLT2 : Hid (¬ PFoot q p bufv pgs w.heap.size) := fun h => Nat.lt_irrefl _ (HLT.out _ h)
  clear hw2 d4 r4 bx0 HBX HS1
  obtain ⟨-, -, r2, -, -, -⟩ := HO2.out.core.fields.cells
  rw [HP.out] at r2
  go_wp2
  clear r2
  go_loopw [36] (fun i wr => MP1 tg G Go mpo no bs q p bufv pgs w2 wr n i) (fun i _ => no - (intOf i).toNat)
  case atStart =>
    refine ⟨0, Nat.zero_le _, rfl, q, mp, n, pgs, ?_, Fr.refl _ _, fun k hk => .inl hk, fun _ => rfl⟩
    have e1 : accP G Go (32 * (mpo + ((0 : Nat) : Int))) = G := by
      unfold accP
      rw [upTo_none _ _ (fun i hi => HHO.out.low (by omega))]
      rfl
    rw [e1]; exact HH2.out
  case round =>
    obtain ⟨j, hj, rfl, hheld⟩ := hrel
    have HHELD := Lib.hid hheld
    have HOr : Hid (Paged tgo Go bso qo mpo no r (.slice ao bso.length cb) pgso wr) := HO2.out.fr hheld.fr (fun k hk h => HD.out k h hk)
    obtain ⟨r0, -, r2, r3, -, -⟩ := HOr.out.core.fields.cells
    rw [HP.out] at r2
    have bx0 := cell_of_one (hheld.fr.heap HBX2.out HLT2.out)
    clear hheld
    by_cases hlt : j < no
    · have hbd : -330 ≤ mpo ∧ mpo + (no : Int) ≤ 330 := by have := HBD.out; omega
      obtain ⟨g, c0, hg2, hgc, hcell⟩ := HOr.out.rowAt (by omega)
      have HP2 := HP
      rw [HP.out] at hg2
      cases hg2
      have hc := hcell j hlt
      have hltI : (j : Int) < (no : Int) := by omega
      have i1 : IntKind.i64.wrap ((j : Int) + 1) = (j : Int) + 1 := by rw [IntKind.wrap_i64]; omega
      have i2 : IntKind.i64.wrap (mpo + (j : Int)) = mpo + (j : Int) := by rw [IntKind.wrap_i64]; omega
      cases hq : qo (mpo + (j : Int)) with
      | none =>
        rw [hq] at hc
        replace hc : wr.cell? ⟨g, j, none⟩ = some (.slice none 0 0) := hc
        have hnx : Hid (MPHeld tg (accP G Go (32 * (mpo + ((j + 1 : Nat) : Int)))) bs q p bufv pgs w2 wr n ((j + 1 : Nat) == 0)) := by
          have e1 : accP G Go (32 * (mpo + ((j + 1 : Nat) : Int))) = accP G Go (32 * (mpo + (j : Int))) := by
            unfold accP
            rw [upTo_hole Go (32 * (mpo + (j : Int))) _ (by omega) (fun i h1 h2 => HHO.out.hole hq h1 (by omega))]
          rw [e1]; exact HHELD.out.weak
        clear hcell hq
        go_wp2
        go_roundw
        case rel => exact ⟨j + 1, by omega, by go_num, hnx.out⟩
        case measure => simp [intOf]; omega
      | some z =>
        obtain ⟨b2, cp2⟩ := z
        rw [hq] at hc
        replace hc : wr.cell? ⟨g, j, none⟩ = some (.slice (some ⟨b2, 0, none⟩) 32 cp2) := hc
        obtain ⟨q', mp', n', pgs', hP1, hF1, hN1, -⟩ := HHELD.out
        have hin := HHO.out.inside _ b2 cp2 hq
        have HPG := page_any (accP G Go (32 * (mpo + (j : Int)))) bs q' mp' n' p bufv pgs' (mpo + (j : Int)) wr hP1 (by omega) (by omega)
        have HQ := Lib.hid hq
        have HF1 := Lib.hid hF1
        have HN1 := Lib.hid hN1
        clear hcell hq hin hP1 hF1 hN1
        go_wp2_with fail
        refine HPG.mono ?_
        clear HPG
        rintro e w3 ⟨q2, mp2, n2, pgs2, b, cp, rfl, hP2, hq2, hF2, hN2⟩
        have HP3 := Lib.hid hP2
        have HQ2 := Lib.hid hq2
        have HF2 := Lib.hid hF2
        have HN2 := Lib.hid hN2
        clear hP2 hq2 hF2 hN2 hc r0 r2 r3 bx0
        go_wp2
        go_loopw [55] (fun i wr2 => MP2 tg G Go (mpo + (j : Int)) bs q2 mp2 n2 p bufv pgs2 b w3 wr2 i) (fun i _ => 32 - (intOf i).toNat)
        case atStart => exact ⟨0, by omega, rfl, by rw [show 32 * (mpo + (j : Int)) + ((0 : Nat) : Int) = 32 * (mpo + (j : Int)) from by omega]; exact HP3.out, Fr.refl _ _⟩
        case round =>
          obtain ⟨k, hk, rfl, hPk, hFk⟩ := hrel
          have hnx0 := MPHeld.next (n0 := n) HF1.out HN1.out HF2.out HN2.out HQ2.out hFk hPk
          have HNX := Lib.hid hnx0
          clear hnx0
          by_cases hk32 : k < 32
          · have hkI : (k : Int) < 32 := by omega
            have hkcp : True := trivial
            have i3 : IntKind.i64.wrap ((k : Int) + 1) = (k : Int) + 1 := by rw [IntKind.wrap_i64]; omega
            have cl := (hPk.core.page _ _ _ HQ2.out).cell k hk32
            have cf := (hPk.core.page _ _ _ HQ2.out).free k
            have co := ((HO2.out.fr HNX.out.fr (fun k hk h => HD.out k h hk)).core.page _ _ _ HQ.out).cell k hk32
            obtain ⟨x, hx⟩ : ∃ x, x = 32 * (mpo + (j : Int)) + (k : Int) := ⟨_, rfl⟩
            have HXE := Lib.hid hx
            rw [← hx] at cl co hPk
            have hadd := fun w : World => run_float_arith (P := Tryz.prog) w .add 30 .f64 _ _ _ (nf_add (accP G Go x x) (Go x) (HGG.out x x))
            obtain ⟨u, hu⟩ : ∃ u, u = nf (accP G Go x x) := ⟨_, rfl⟩
            obtain ⟨v, hv⟩ : ∃ v, v = nf (Go x) := ⟨_, rfl⟩
            obtain ⟨y, hy⟩ : ∃ y, y = nf (accP G Go x x + Go x) := ⟨_, rfl⟩
            rw [← hu] at cl hadd
            rw [← hv] at co hadd
            rw [← hy] at hadd
            have HY := Lib.hid hy
            have HPK := Lib.hid hPk
            have HFK := Lib.hid hFk
            clear hx hu hv hy hPk hFk
            go_wp2
            go_roundw
            case rel =>
              have hx := HXE.out
              have hxd : x / 32 = mpo + (j : Int) := by omega
              have hset := HPK.out.addTo (b := b) (cp := cp) x (Go x) k (by omega) (by rw [hxd]; exact HQ2.out)
              rw [← accP_step, ← HY.out] at hset
              refine ⟨k + 1, by omega, by go_num, ?_, HFK.out.setCell (p := ⟨b, k, none⟩) (fun _ => rfl) _⟩
              rw [show 32 * (mpo + (j : Int)) + ((k + 1 : Nat) : Int) = x + 1 from by omega]
              exact hset
            case measure => simp [intOf]; omega
          · obtain rfl : k = 32 := by omega
            clear hPk hFk
            go_wp2
            go_roundw
            case rel =>
              refine ⟨j + 1, by omega, by go_num, ?_⟩
              rw [show 32 * (mpo + ((j + 1 : Nat) : Int)) = 32 * (mpo + (j : Int)) + ((32 : Nat) : Int) from by omega]
              exact HNX.out
            case measure => simp [intOf]; omega
    · have hjn : j = no := by omega
      subst hjn
      have HHA : Hid (MPHeld tg (fun i => G i + Go i) bs q p bufv pgs w2 wr n (j == 0)) := by
        have e1 : accP G Go (32 * (mpo + (j : Int))) = fun i => G i + Go i := by
          unfold accP
          rw [upTo_all _ _ (fun i hi => HHO.out.high (by omega))]
        have h := HHELD.out
        rw [e1] at h
        exact h
      clear HHELD
      go_wp2
      clear r0 r2 r3 bx0
      go_loopw [74] (fun i wr2 => MP3 (fun x => both G bs x + Go x) bso bs.length q p bufv pgs w2 wr2 n (j == 0) i) (fun i _ => bso.length - (intOf i).toNat)
      case atStart =>
        obtain ⟨q', mp', n', pgs', hP1, hF1, hN1, hb⟩ := HHA.out
        refine ⟨0, Nat.zero_le _, rfl, tg, _, bs, q', mp', n', bufv, pgs', hP1, ?_, HII.out, Nat.le_refl _, hF1, hN1, fun h => hb (by simpa using h)⟩
        funext x
        show G x + Go x + cntI bs x = (G x + cntI bs x) + Go x + 0
        omega
      case round =>
        obtain ⟨l, hl, rfl, tg', G', bs', q', mp', n', bufv', pgs', hP1, hB, hI1, hlen, hF1, hN1, hb⟩ := hrel
        have hO3 := HO2.out.fr hF1 (fun k hk h => HD.out k h hk)
        have bx0 := cell_of_one (hF1.heap HBX2.out HLT2.out)
        by_cases hlt2 : l < bso.length
        · have hltI : (l : Int) < (bso.length : Int) := by omega
          obtain ⟨g, hao, hcl⟩ := cellsI hO3.core.buf (by omega)
          have HAO := Lib.hid hao
          subst hao
          have hc := hcl l hlt2
          obtain ⟨x, hx⟩ : ∃ x, x = bso[l] := ⟨_, rfl⟩
          rw [← hx] at hc
          have hxI := HIO.out x (by rw [hx]; exact List.getElem_mem hlt2)
          have i3 : IntKind.i64.wrap ((l : Int) + 1) = (l : Int) + 1 := by rw [IntKind.wrap_i64]; omega
          have HA := addGone_any G' bs' q' mp' n' p bufv' pgs' x wr hP1 hI1 (fun y => by
            rw [hB]
            have h1 := HSS.out y
            have h2 := cntI_take bso l y
            have h3 : both Go bso y = Go y + cntI bso y := rfl
            show both G bs y + Go y + cntI (bso.take l) y < _
            omega) (by have := HLB.out; omega) hxI.1 hxI.2
          have HBB := Lib.hid hB
          have HTK : Hid (bso.take (l + 1) = bso.take l ++ [x]) := by rw [hx]; exact (List.take_append_getElem hlt2).symm
          have HF3 := Lib.hid hF1
          have HN3 := Lib.hid hN1
          clear hP1 hB hI1 hF1 hN1 hb hO3 hcl hx hxI
          go_wp2_with fail
          refine HA.mono ?_
          clear HA
          rintro e w4 ⟨tg2, G2, bs2, q2, mp2, n2, bufv2, pgs2, rfl, k1, k2, k3, k4, k5, k6⟩
          have hs3 := HF3.out.size
          have hall : ∀ k, PFoot q2 p bufv2 pgs2 k → PFoot q p bufv pgs k ∨ w2.heap.size ≤ k := fun k hk => (k6 k hk).elim (HN3.out k) (fun h => .inr (by omega))
          have hff := HF3.out.trans k5 (fun _ _ h => h) (fun i hi h => (HN3.out i h).elim id (fun h2 => by omega))
          have HALL := Lib.hid hall
          have HFF := Lib.hid hff
          have HK1 := Lib.hid k1
          have HK2 := Lib.hid k2
          have HK3 := Lib.hid k3
          clear hall hff k1 k2 k3 k5 k6 bx0 hc
          go_wp2
          go_roundw
          case rel =>
            refine ⟨l + 1, by omega, by go_num, tg2, G2, bs2, q2, mp2, n2, bufv2, pgs2, HK1.out, ?_, HK3.out, by omega, HFF.out, HALL.out, fun h => by simp at h⟩
            rw [HK2.out, HBB.out, HTK.out]
            funext y
            show (if y = x then (both G bs y + Go y + cntI (bso.take l) y) + 1 else both G bs y + Go y + cntI (bso.take l) y) = both G bs y + Go y + cntI (bso.take l ++ [x]) y
            rw [cntI_snoc]
            unfold addAt
            split <;> omega
          case measure => simp [intOf]; omega
        · obtain rfl : l = bso.length := by omega
          have hff := (HF01.out.trans HF12.out (fun _ _ h => h) (fun _ _ h => h.elim)).trans hF1 (fun _ _ h => h.elim) (fun _ _ h => h)
          have hs2 := HS2.out
          have HR : Hid (MergedP (fun x => both G bs x + both Go bso x) (bs.length + bso.length) q p bufv pgs w n (j == 0 && bso.length == 0) (.returned (.tuple #[])) wr) := by
            refine ⟨tg', G', bs', q', mp', n', bufv', pgs', rfl, hP1, ?_, hI1, hlen, hff, fun k hk => (hN1 k hk).imp id (fun h => by omega), hb⟩
            rw [hB, List.take_length]
            funext y
            show both G bs y + Go y + cntI bso y = both G bs y + (Go y + cntI bso y)
            omega
          clear hP1 hB hI1 hF1 hN1 hb hO3 hff
          go_wp2
          go_end0
          exact HR.out
end Go.Proofs.YtnmbjalojgccmaaGreat
end
/-
  Of one kind: a store with pages, as one of its kind.
-/
section
namespace Go.Proofs.YtnmbjalojgccmaaGreat
open Go.RowKit

theorem mergePP_any (most om : Int) (xs ys : Bins) (S R : Nat → Prop) (p r : Nat) (w : World) (h : (kindP).St most xs S p w) (ho : (kindP).St om ys R r w) (hd : ∀ b, S b → ¬ R b) (hfo : Few 2 om ys) (hf : Fits2 2 most xs (keptB 2 om ys)) :
    Calls Tryz.prog 307 #[.pointer (some ⟨p, 0, none⟩), .iface 134 (.pointer (some ⟨r, 0, none⟩))] w fun e w' => MergedTo kindP kindP most om xs ys S R p r w e w' := by
  obtain ⟨ks, hks⟩ : ∃ ks, ks = keptB 2 om ys := ⟨_, rfl⟩
  have hkc : cntB ks = cntB ys := by rw [hks]; exact cnt_kept0 (by decide) (by decide) ys
  have hkt : tot ks = tot ys := by rw [hks]; exact kept_tot 2 om ys
  have hO : ∀ (w' : World) (U : Nat → Prop), Fr U w w' → (∀ b, R b → ¬ U b) → StP om ys R r w' := fun w' U hfr hn => (kindP).fr om ys R r U w w' ho hfr (fun k hk => hn k hk)
  rw [← hks] at hf
  have htt := hf.tot
  have hxi := hf.inR
  have hyi := hfo.inR
  obtain ⟨tg, G, bs, q, mp, n, bufv, pgs, h1, h2, h3, h4, h5, h6⟩ := h
  obtain ⟨tgo, Go, bso, qo, mpo, no, bufo, pgso, g1, g2, g3, g4, g5, g6⟩ := ho
  refine (mergeP_core G Go bs bso q qo mp mpo n no p r bufv pgs bufo pgso w h1 g1 (fun k hk hk2 => hd k ((h6 k).2 hk) ((g6 k).2 hk2)) h3 g3 (fun x => ?_) (by omega)).mono ?_
  · rw [h2, g2]
    have := cnt_le_tot hxi x
    have := cnt_le_tot hyi x
    omega
  rintro e w' ⟨tg', G', bs', q', mp', n', bufv', pgs', rfl, k1, k2, k3, k4, k5, k6, k7⟩
  have hfS : Fr S w w' := k5.mono (fun k _ hk => (h6 k).2 hk)
  refine ⟨rfl, hO w' S hfS (fun b hb hs => hd b hs hb), PFoot q' p bufv' pgs', ⟨tg', G', bs', q', mp', n', bufv', pgs', k1, ?_, k3, by rw [← hks, tot_append, hkt]; omega, fun e => ?_, fun k => Iff.rfl⟩, hfS.mono (fun _ _ h => .inl h), fun k hk => (k6 k hk).imp (fun h => (h6 k).2 h) id⟩
  · rw [k2, h2, g2, ← hks]
    funext i
    rw [cntB_append, hkc]
  · rw [← hks] at e
    have e1 : xs = [] := (List.append_eq_nil_iff.1 e).1
    have e2 : ks = [] := (List.append_eq_nil_iff.1 e).2
    have e3 : tot ys = 0 := by rw [← hkt, e2]; rfl
    have e4 : ys = [] := by
      cases ys with
      | nil => rfl
      | cons z t =>
        have h7 := hfo.pos z (List.mem_cons_self ..)
        have h8 : tot (z :: t) = z.2 + tot t := rfl
        omega
    have e5 : no = 0 := g5 e4
    have e6 : bso.length = 0 := by omega
    rw [k7 (by rw [e5, e6]; rfl), h5 e1]
end Go.Proofs.YtnmbjalojgccmaaGreat
end
