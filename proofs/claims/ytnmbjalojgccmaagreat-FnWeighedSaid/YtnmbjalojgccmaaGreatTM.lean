/-
  Reweight of the store with pages.
-/
import Derived.Test.YtnmbjalojgccmaaGreatTL
import Derived.Test.YtnmbjalojgccmaaGreatQYH
import Derived.Test.YtnmbjalojgccmaaGreatTG
import Derived.Deep.QuietTactic
import Derived.BigQuiet
section
namespace Go.Proofs.YtnmbjalojgccmaaGreat
open Go.RowKit
variable {tg : Int}

/-- A count in a page written anew. -/
theorem Paged.setTo {G : Int → Nat} {bs : List Int} {q : Int → Option (Nat × Nat)} {mp : Int} {n p : Nat} {bufv pgs : Value} {w : World} (h : Paged tg G bs q mp n p bufv pgs w) {b cp : Nat} (i : Int) (v j : Nat) (hj : (j : Int) = i % 32) (hq : q (i / 32) = some (b, cp)) :
    Paged tg (fun x => if x = i then v else G x) bs q mp n p bufv pgs (w.setCell ⟨b, j, none⟩ (.float .f64 (nf v))) := by
  have hrow := h.core.page _ _ _ hq
  obtain ⟨cb, hcb, _⟩ := hrow.block
  have hjlt : j < 32 := by omega
  have hset := hrow.set j v hjlt
  refine ⟨⟨h.core.fields.other (tag_ne hcb h.core.fields (by decide)) _, ownsRow_setCell_other h.core.buf (fun e => ?_) _, ownsRow_setCell_other h.core.row (fun e => ?_) _, fun x b2 cp2 hx => ?_, fun x hx k k0 k1 => ?_, h.core.inj⟩, h.inside, h.bd⟩
  · obtain ⟨_, hc⟩ := owns_tag h.core.buf e; exact tag_ne hc hcb (by decide) rfl
  · obtain ⟨_, hc⟩ := owns_tag h.core.row e; exact tag_ne hc hcb (by decide) rfl
  · by_cases hxi : x = i / 32
    · subst hxi
      rw [hq] at hx
      cases hx
      refine hset.ext (fun k hk => ?_)
      by_cases c1 : (k : Int) = (j : Int)
      · rw [if_pos c1, if_pos (by omega)]
      · rw [if_neg c1, if_neg (by omega)]
    · have hne : b2 ≠ b := fun e => hxi (h.core.inj x (i / 32) b2 cp2 cp hx (by rw [hq, e]))
      refine ((h.core.page x b2 cp2 hx).other (fun e => hne e.symm) _).ext (fun k hk => ?_)
      rw [if_neg (by omega)]
  · by_cases c1 : 32 * x + k = i
    · have : x = i / 32 := by omega
      rw [this, hq] at hx; cases hx
    · rw [if_neg c1]; exact h.core.zero x hx k k0 k1

/-- The buffer cut to nothing. -/
theorem Paged.noBuf {G : Int → Nat} {bs : List Int} {q : Int → Option (Nat × Nat)} {mp : Int} {n p : Nat} {ao : Option Addr} {cb : Nat} {pgs : Value} {w : World} (h : Paged tg G bs q mp n p (.slice ao bs.length cb) pgs w) :
    Paged tg G [] q mp n p (.slice ao 0 cb) pgs (w.setCell ⟨p, 0, none⟩ (.slice ao 0 cb)) := by
  have hown : w.ownsRow 0 3 1 (.slice ao 0 cb) 0 [] := by
    refine ⟨rfl, ?_⟩
    rcases h.core.buf.2 with ⟨h1, h2⟩ | ⟨g, cap, cur, h1, h2, h3, h4, h5, h6, h7⟩
    · obtain ⟨rfl, _, rfl⟩ : ao = none ∧ bs.length = 0 ∧ cb = 0 := by simpa using h1
      exact .inl ⟨rfl, rfl⟩
    · obtain ⟨rfl, rfl⟩ : ao = some ⟨g, 0, none⟩ ∧ cb = cap := by simpa using h1
      exact .inr ⟨g, cb, cur, rfl, h2, h3, Nat.zero_le _, h5, h6, by simp⟩
  refine ⟨⟨h.core.fields.set0 _, ownsRow_setCell_other hown (fun e => ?_) _, ownsRow_setCell_other h.core.row (fun e => ?_) _, fun x b cp hx => ?_, h.core.zero, h.core.inj⟩, h.inside, h.bd⟩
  · obtain ⟨_, hc⟩ := owns_tag hown e; exact tag_ne hc h.core.fields (by decide) rfl
  · obtain ⟨_, hc⟩ := owns_tag h.core.row e; exact tag_ne hc h.core.fields (by decide) rfl
  · obtain ⟨_, hc, _⟩ := (h.core.page x b cp hx).block
    exact (h.core.page x b cp hx).other (fun e => tag_ne hc h.core.fields (by decide) e.symm) _

theorem Tryz.sizeInt (w : World) : (sizeOf 3).run Tryz.prog w = .ok 1 w := by kernel_rfl

def WP1 (tg : Int) (G : Int → Nat) (q : Int → Option (Nat × Nat)) (mp : Int) (n p k : Nat) (bufv pgs : Value) (w wr : World) (i : Value) : Prop :=
  ∃ j : Nat, j ≤ n ∧ i = .int .i64 (j : Int) ∧ Paged tg (fun x => if x < 32 * (mp + (j : Int)) then G x * k else G x) [] q mp n p bufv pgs wr ∧ Fr (fun b => ∃ x cp, q x = some (b, cp)) w wr
def WP2 (tg : Int) (G : Int → Nat) (q : Int → Option (Nat × Nat)) (mp x : Int) (n p k : Nat) (bufv pgs : Value) (w wr : World) (i : Value) : Prop :=
  ∃ l : Nat, l ≤ 32 ∧ i = .int .i64 (l : Int) ∧ Paged tg (fun y => if y < 32 * x + (l : Int) then G y * k else G y) [] q mp n p bufv pgs wr ∧ Fr (fun b => ∃ x cp, q x = some (b, cp)) w wr
def WP3 (tg : Int) (G : Int → Nat) (bs : List Int) (n0 p k : Nat) (bufv : Value) (S : Nat → Prop) (g0 : Nat) (w wr : World) (i : Value) : Prop :=
  ∃ (j : Nat) (q : Int → Option (Nat × Nat)) (mp : Int) (n : Nat) (pgs : Value), j ≤ bs.length ∧ i = .int .i64 (j : Int) ∧ Paged tg (fun y => G y * k + cntI (bs.take j) y * k) [] q mp n p bufv pgs wr ∧ (j = 0 → n = n0) ∧
    Fr (fun b => S b ∧ bufv.ownBlock ≠ some b) w wr ∧ ∀ b, PFoot q p bufv pgs b → S b ∨ g0 ≤ b

set_option maxRecDepth 100000 in
theorem reweighP1_any (p : Value) (w : World) : Calls Tryz.prog 309 #[p, .float .f64 (nf 1)] w fun e w' => e = .returned .nilIface ∧ w' = w := by
  have h0 : (FloatKind.f64.format.order 4607182418800017408 0 == some .lt || FloatKind.f64.format.order 4607182418800017408 0 == some .eq) = false := by decide +kernel
  have h1 : (FloatKind.f64.format.order 4607182418800017408 4607182418800017408 == some .eq) = true := by decide +kernel
  rw [nf_one]
  go_enter Tryz.func309, Tryz.ntmps309
  go_wp2
  go_ret
  exact ⟨rfl, rfl⟩

theorem ownBlock_len (ao : Option Addr) (n m c : Nat) : (Value.slice ao n c).ownBlock = (Value.slice ao m c).ownBlock := by
  cases ao with
  | none => rfl
  | some a => rfl
theorem PFoot.len {q : Int → Option (Nat × Nat)} {p : Nat} {ao : Option Addr} {n c : Nat} {pgs : Value} {k : Nat} (m : Nat) (h : PFoot q p (.slice ao n c) pgs k) : PFoot q p (.slice ao m c) pgs k := by
  rcases h with h | h | h | h
  · exact .inl h
  · exact .inr (.inl (by rw [ownBlock_len ao m n c]; exact h))
  · exact .inr (.inr (.inl h))
  · exact .inr (.inr (.inr h))

theorem cntI_le : ∀ (bs : List Int) (x : Int), cntI bs x ≤ bs.length
  | [], _ => Nat.le_refl _
  | b :: t, x => by
    rw [cntI_cons]
    have := cntI_le t x
    unfold addAt
    split <;> simp <;> omega

/-- Behind the weighing. -/
def WeighedP (tg : Int) (G : Int → Nat) (bs : List Int) (q : Int → Option (Nat × Nat)) (n p k : Nat) (bufv pgs : Value) (w : World) (e : Ending) (w' : World) : Prop :=
  ∃ G' q' mp' n' bufv' pgs', e = .returned .nilIface ∧ Paged tg G' [] q' mp' n' p bufv' pgs' w' ∧ (∀ i, G' i = both G bs i * k) ∧ (bs = [] → n' = n) ∧ Fr (PFoot q p bufv pgs) w w' ∧ (∀ b, PFoot q' p bufv' pgs' b → PFoot q p bufv pgs b ∨ w.heap.size ≤ b)

set_option maxRecDepth 100000 in
set_option maxHeartbeats 1000000 in
theorem reweighP_any (G : Int → Nat) (bs : List Int) (q : Int → Option (Nat × Nat)) (mp : Int) (n p k : Nat) (bufv pgs : Value) (w : World) (h : Paged tg G bs q mp n p bufv pgs w) (hk1 : 2 ≤ k) (hk2 : k ≤ 100) (hI : InI bs) (hz : ∀ i, i < -10000 ∨ 10000 < i → G i = 0) (hT : tot2 G + bs.length < 1000000) :
    Calls Tryz.prog 309 #[.pointer (some ⟨p, 0, none⟩), .float .f64 (nf k)] w fun e w' => WeighedP tg G bs q n p k bufv pgs w e w' := by
  obtain ⟨h0, h1⟩ := weigh_tests hk1 hk2
  have hle : ∀ i, G i < 1000000 := fun i => by
    by_cases c : -10000 ≤ i ∧ i ≤ 10000
    · have := one_le_tot G i c.1 c.2; omega
    · rw [hz i (by omega)]; decide
  have hmi : ∀ i, floatBits .mul .f64 (nf (G i)) (nf k) = some (nf (G i * k)) := fun i => nf_mulz (G i) k (by omega) (by omega) (by
    have h3 := Nat.mul_le_mul (Nat.le_of_lt (hle i)) hk2
    omega)
  obtain ⟨ao, n1, cb, rfl⟩ := owns_slice h.core.buf
  obtain rfl := owns_len h.core.buf
  obtain ⟨aq, n2, cq, rfl⟩ := owns_slice h.core.row
  obtain rfl := owns_len h.core.row
  obtain ⟨d0, -, d2, -, -, -⟩ := h.core.fields.cells
  have f0 := h.core.fields.free 0
  have hW := h.noBuf
  have hsl := run_slice_upto (P := Tryz.prog) 32 3 Tryz.underlying32 ao bs.length cb 0 0 rfl (Nat.zero_le _) Tryz.sizeInt
  obtain ⟨w1, hw1⟩ : ∃ w1, w1 = w.setCell ⟨p, 0, none⟩ (.slice ao 0 cb) := ⟨_, rfl⟩
  rw [← hw1] at hW
  have hF1 : Fr (fun b => b = p) w w1 := by rw [hw1]; exact (show Fr (fun b => b = p) w w from Fr.refl _ w).setCell (p := ⟨p, 0, none⟩) (fun _ => rfl) _
  have hbd : n2 = 0 ∨ (-330 ≤ mp ∧ mp + (n2 : Int) ≤ 330) := by rcases h.bd with ⟨h1, _, _⟩ | ⟨_, h2, h3⟩; exact .inl h1; exact .inr ⟨h2, h3⟩
  -- the buffer's cells, whatever is done to pages
  have hbuf : 0 < bs.length → ∃ g, ao = some ⟨g, 0, none⟩ ∧ g ≠ p ∧ ∀ k, (hk : k < bs.length) → w1.cell? ⟨g, k, none⟩ = some (.int .i64 bs[k]) := fun h0 => by
    obtain ⟨g, rfl, hc⟩ := cellsI h.core.buf h0
    obtain ⟨_, ht⟩ := owns_tag h.core.buf (k := g) rfl
    have hgp : g ≠ p := tag_ne ht h.core.fields (by decide)
    exact ⟨g, rfl, hgp, fun k hk => hF1.cell (hc k hk) hgp⟩
  have hnb : n2 < 1000000000 := by rcases h.bd with ⟨h1, _, _⟩ | ⟨h1, h2, h3⟩ <;> omega
  have HH := Lib.hid h
  have HW1 := Lib.hid hW
  have HF1 := Lib.hid hF1
  have HBD := Lib.hid hbd
  have HBF := Lib.hid hbuf
  have HMI := Lib.hid hmi
  have HI := Lib.hid hI
  have HZ := Lib.hid hz
  have HT := Lib.hid hT
  have HLE := Lib.hid hle
  have d2' : w1.cell? ⟨p, 2, none⟩ = some (.slice aq n2 cq) := hW.core.fields.cells.2.2.1
  have HW := Lib.hid hw1
  obtain ⟨y, hy⟩ : ∃ y, y = nf k := ⟨_, rfl⟩
  rw [← hy] at h0 h1 HMI ⊢
  have HY := Lib.hid hy
  clear h hW hF1 hbd hbuf hmi hI hz hT hle hw1 hy
  go_enter Tryz.func309, Tryz.ntmps309
  go_wp2
  rw [← HW.out]
  clear d0 d2 f0 hsl d2'
  go_loopw [33] (fun i wr => WP1 tg G q mp n2 p k (.slice ao 0 cb) (.slice aq n2 cq) w1 wr i) (fun i _ => n2 - (intOf i).toNat)
  case atStart =>
    have e : (fun x => if x < 32 * (mp + ((0 : Nat) : Int)) then G x * k else G x) = G := by
      funext x
      by_cases c : x < 32 * (mp + ((0 : Nat) : Int))
      · rw [if_pos c, HH.out.low (by omega), Nat.zero_mul]
      · rw [if_neg c]
    exact ⟨0, Nat.zero_le _, rfl, by rw [e]; exact HW1.out, Fr.refl _ _⟩
  case round =>
    obtain ⟨j, hj, rfl, hP, hfr⟩ := hrel
    by_cases hlt : j < n2
    · have hmp : -330 ≤ mp ∧ mp + (n2 : Int) ≤ 330 := by have := HBD.out; omega
      obtain ⟨g, c0, hg2, hgc, hcell⟩ := hP.rowAt (by omega)
      cases hg2
      have hc := hcell j hlt
      have hltI : (j : Int) < (n2 : Int) := by omega
      have i1 : IntKind.i64.wrap ((j : Int) + 1) = (j : Int) + 1 := by rw [IntKind.wrap_i64]; omega
      cases hq : q (mp + (j : Int)) with
      | none =>
        rw [hq] at hc
        replace hc : wr.cell? ⟨g, j, none⟩ = some (.slice none 0 0) := hc
        have he : (fun x => if x < 32 * (mp + (j : Int)) then G x * k else G x) = fun x => if x < 32 * (mp + ((j + 1 : Nat) : Int)) then G x * k else G x := by
          funext x
          by_cases c : x < 32 * (mp + (j : Int))
          · rw [if_pos c, if_pos (by omega)]
          · rw [if_neg c]
            by_cases c2 : x < 32 * (mp + ((j + 1 : Nat) : Int))
            · rw [if_pos c2, HH.out.hole hq (by omega) (by omega), Nat.zero_mul]
            · rw [if_neg c2]
        rw [he] at hP
        have HP := Lib.hid hP
        have HFR := Lib.hid hfr
        clear hcell hP hfr hq he
        go_wp2
        go_loopw [39] (fun i w2 => i = .int .i64 0 ∧ w2 = wr) (fun _ _ => 0)
        case atStart => exact ⟨rfl, rfl⟩
        case round =>
          obtain ⟨rfl, rfl⟩ := hrel
          go_wp2
          go_roundw
          case rel => exact ⟨j + 1, by omega, by go_num, HP.out, HFR.out⟩
          case measure => simp [intOf]; omega
      | some z =>
        obtain ⟨b, cp⟩ := z
        rw [hq] at hc
        replace hc : wr.cell? ⟨g, j, none⟩ = some (.slice (some ⟨b, 0, none⟩) 32 cp) := hc
        have HP := Lib.hid hP
        have HFR := Lib.hid hfr
        have HQ := Lib.hid hq
        clear hcell hP hfr hq
        go_wp2
        go_loopw [39] (fun i w2 => WP2 tg G q mp (mp + (j : Int)) n2 p k (.slice ao 0 cb) (.slice (some ⟨g, 0, none⟩) n2 cq) w1 w2 i) (fun i _ => 32 - (intOf i).toNat)
        case atStart => exact ⟨0, by omega, rfl, by rw [show 32 * (mp + (j : Int)) + ((0 : Nat) : Int) = 32 * (mp + (j : Int)) from by omega]; exact HP.out, HFR.out⟩
        case round =>
          obtain ⟨l, hl, rfl, hP, hfr⟩ := hrel
          by_cases hl32 : l < 32
          · have hl32I : (l : Int) < 32 := by omega
            have i3 : IntKind.i64.wrap ((l : Int) + 1) = (l : Int) + 1 := by rw [IntKind.wrap_i64]; omega
            have hrow := hP.core.page _ _ _ HQ.out
            have hcl := hrow.cell l hl32
            have hfl := hrow.free l
            rw [if_neg (by omega)] at hcl
            obtain ⟨x, hx⟩ : ∃ x, x = 32 * (mp + (j : Int)) + (l : Int) := ⟨_, rfl⟩
            rw [← hx] at hcl
            have hmul := fun w : World => run_float_arith (P := Tryz.prog) w .mul 30 .f64 _ _ _ (HMI.out x)
            have hset := hP.setTo x (G x * k) l (by omega) (by rw [show x / 32 = mp + (j : Int) from by omega]; exact HQ.out)
            have he : (fun z => if z = x then G x * k else (fun y => if y < x then G y * k else G y) z) = fun y => if y < 32 * (mp + (j : Int)) + ((l + 1 : Nat) : Int) then G y * k else G y := by
              funext z
              by_cases c : z = x
              · subst c; rw [if_pos rfl, if_pos (by omega)]
              · rw [if_neg c]
                by_cases c2 : z < x
                · show (if z < x then G z * k else G z) = _
                  rw [if_pos c2, if_pos (by omega)]
                · show (if z < x then G z * k else G z) = _
                  rw [if_neg c2, if_neg (by omega)]
            rw [← hx, he] at hset
            obtain ⟨u, hu⟩ : ∃ u, u = nf (G x) := ⟨_, rfl⟩
            obtain ⟨v, hv⟩ : ∃ v, v = nf (G x * k) := ⟨_, rfl⟩
            rw [← hu] at hcl hmul
            rw [← hv] at hmul hset
            have HS := Lib.hid hset
            have HFR2 := Lib.hid hfr
            clear hrow hP hfr hset he hx hu hv
            go_wp2
            go_roundw
            case rel => exact ⟨l + 1, by omega, by go_num, HS.out, HFR2.out.setCell (p := ⟨b, l, none⟩) (fun _ => ⟨_, _, HQ.out⟩) _⟩
            case measure => simp [intOf]; omega
          · obtain rfl : l = 32 := by omega
            rw [show 32 * (mp + (j : Int)) + ((32 : Nat) : Int) = 32 * (mp + ((j + 1 : Nat) : Int)) from by omega] at hP
            have HP2 := Lib.hid hP
            have HFR2 := Lib.hid hfr
            clear hP hfr
            go_wp2
            go_roundw
            case rel => exact ⟨j + 1, by omega, by go_num, HP2.out, HFR2.out⟩
            case measure => simp [intOf]; omega
    · obtain rfl : j = n2 := by omega
      have he : (fun x => if x < 32 * (mp + (j : Int)) then G x * k else G x) = fun x => G x * k + cntI (bs.take 0) x * k := by
        funext x
        show _ = G x * k + 0 * k
        by_cases c : x < 32 * (mp + (j : Int))
        · rw [if_pos c]; omega
        · rw [if_neg c, HH.out.high (by omega)]; omega
      rw [he] at hP
      have hs1 : w1.heap.size = w.heap.size := by rw [HW.out]; simp [World.setCell]
      have hS0 : Fr (fun b => PFoot q p (.slice ao bs.length cb) (.slice aq j cq) b ∧ (Value.slice ao 0 cb).ownBlock ≠ some b) w1 wr := hfr.mono fun b hb h => by
        obtain ⟨x, cp, hx⟩ := h
        refine ⟨.inr (.inr (.inr ⟨x, cp, hx⟩)), fun e => ?_⟩
        obtain ⟨_, hc1⟩ := owns_tag HW1.out.core.buf e
        obtain ⟨_, hc2, _⟩ := (HW1.out.core.page x b cp hx).block
        exact tag_ne hc1 hc2 (by decide) rfl
      have hft : ∀ b, PFoot q p (.slice ao 0 cb) (.slice aq j cq) b → PFoot q p (.slice ao bs.length cb) (.slice aq j cq) b ∨ w.heap.size ≤ b := fun b hb => .inl (hb.len _)
      obtain ⟨S, hS⟩ : ∃ S : Nat → Prop, S = PFoot q p (.slice ao bs.length cb) (.slice aq j cq) := ⟨_, rfl⟩
      rw [← hS] at hS0 hft
      have HS := Lib.hid hS
      have HP := Lib.hid hP
      have HS0 := Lib.hid hS0
      have HFT := Lib.hid hft
      have HS1 := Lib.hid hs1
      have hbl : bs.length < 1000000 := by have := HT.out; omega
      clear hP hfr he hS0 hft hS hs1 hlt hj
      go_wp2
      go_loopw [53] (fun i w2 => WP3 tg G bs j p k (.slice ao 0 cb) S w.heap.size w1 w2 i) (fun i _ => bs.length - (intOf i).toNat)
      case atStart => exact ⟨0, q, mp, j, _, Nat.zero_le _, rfl, HP.out, fun _ => rfl, HS0.out, HFT.out⟩
      case round =>
        obtain ⟨l, q', mp', n', pgs', hl, rfl, hP, hn0, hfr, hft⟩ := hrel
        by_cases hlt : l < bs.length
        · obtain ⟨g, rfl, hgp, hc⟩ := HBF.out (by omega)
          have c0 := hfr.cell (p := ⟨g, l, none⟩) (hc l hlt) (fun h => h.2 rfl)
          have hin := HI.out bs[l] (List.getElem_mem hlt)
          have hbnd : G bs[l] * k + cntI (bs.take l) bs[l] * k + k < 9007199254740992 := by
            have a1 := Nat.mul_le_mul (Nat.le_of_lt (HLE.out bs[l])) hk2
            have a2 := cntI_le (bs.take l) bs[l]
            rw [List.length_take] at a2
            have a3 : cntI (bs.take l) bs[l] * k ≤ 1000000 * 100 := Nat.mul_le_mul (by omega) hk2
            omega
          have HA := addPn0_any _ [] q' mp' n' p (.slice (some ⟨g, 0, none⟩) 0 cb) pgs' bs[l] k wr hP hk1 hbnd hin.1 hin.2
          have htk : bs.take (l + 1) = bs.take l ++ [bs[l]] := List.take_succ_eq_append_getElem hlt
          have hfun : addAt (fun y => G y * k + cntI (bs.take l) y * k) bs[l] k = fun y => G y * k + cntI (bs.take (l + 1)) y * k := by
            funext y
            rw [htk, cntI_snoc]
            unfold addAt
            by_cases c : y = bs[l]
            · rw [if_pos c, if_pos c, Nat.add_mul, Nat.one_mul, Nat.add_assoc]
            · rw [if_neg c, if_neg c]
          unfold AddedN at HA
          rw [hfun, ← HY.out] at HA
          obtain ⟨x, hx⟩ : ∃ x, x = bs[l] := ⟨_, rfl⟩
          rw [← hx] at HA c0
          have hne : ∀ b, PFoot q' p (.slice none 0 0) pgs' b → (Value.slice (some ⟨g, 0, none⟩) 0 cb).ownBlock ≠ some b := fun b hb e => by
            obtain ⟨_, hc1⟩ := owns_tag hP.core.buf e
            rcases hb with h | h | h | ⟨x, cp, h⟩
            · rw [h] at hc1; exact tag_ne hc1 hP.core.fields (by decide) rfl
            · simp [Value.ownBlock] at h
            · obtain ⟨_, hc2⟩ := owns_tag hP.core.row h; exact tag_ne hc1 hc2 (by decide) rfl
            · obtain ⟨_, hc2, _⟩ := (hP.core.page x b cp h).block; exact tag_ne hc1 hc2 (by decide) rfl
          have hltI : (l : Int) < (bs.length : Int) := by omega
          have i4 : IntKind.i64.wrap ((l : Int) + 1) = (l : Int) + 1 := by rw [IntKind.wrap_i64]; omega
          have HNE := Lib.hid hne
          have HFR := Lib.hid hfr
          have HFT2 := Lib.hid hft
          clear hP hn0 hfr hft hc hgp hin hbnd htk hfun hx hne
          go_wp2_with (go_at_call 297; (with_reducible refine HA.mono ?_); rintro e w3 ⟨q3, mp3, n3, pgs3, rfl, hP3, hf3, hft3⟩; have HP3 := Lib.hid hP3; have HF3 := Lib.hid hf3; have HFT3 := Lib.hid hft3; clear hP3 hf3 hft3 HA c0)
          go_roundw
          case rel =>
            refine ⟨l + 1, q3, mp3, n3, pgs3, by omega, by go_num, HP3.out, fun e => by omega, ?_, fun b hb => ?_⟩
            · refine HFR.out.trans HF3.out (fun _ _ h => h) (fun i hi h => ⟨?_, HNE.out i h⟩)
              rcases HFT2.out i h.more with h2 | h2
              · exact h2
              · have := HS1.out; omega
            · rcases HFT3.out b hb with h2 | h2
              · exact HFT2.out b h2
              · right
                have := HFR.out.size
                have := HS1.out
                omega
          case measure => simp [intOf]; omega
        · obtain rfl : l = bs.length := by omega
          rw [List.take_length] at hP
          have HP := Lib.hid hP
          have HN0 := Lib.hid hn0
          have HFR := Lib.hid hfr
          have HFT2 := Lib.hid hft
          clear hP hn0 hfr hft hlt
          go_wp2
          go_ret
          rw [HS.out] at HFR HFT2
          refine ⟨_, q', mp', n', _, pgs', rfl, HP.out, fun i => ?_, fun e => HN0.out (by rw [e]; rfl), HF1.out.trans HFR.out (fun _ _ h => .inl h) (fun _ _ h => h.1), HFT2.out⟩
          show _ = (G i + cntI bs i) * k
          rw [Nat.add_mul]

def weighP : WeighKind kindP where
  fW := 309
  mW := fun _ _ => by kernel_rfl
  eW := enters_of Tryz.func309 (by kernel_rfl) rfl
  cW := fun most xs S p k w h hf hk1 hk2 ht hl => by
    by_cases hk : k = 1
    · subst hk
      exact (reweighP1_any _ w).mono fun e w' he => weighed_one h he
    obtain ⟨G, bs, q, mp, n, bufv, pgs, h1, h2, h3, h4, h5, h6⟩ := id h
    have htt := both_tot h2 hf.inR h3
    refine (reweighP_any G bs q mp n p k bufv pgs w h1 (by omega) hk2 h3 (both_zero h2 hf.inR) (by omega)).mono ?_
    rintro e w' ⟨G', q', mp', n', bufv', pgs', rfl, hP, hG, hn0, hfr, hft⟩
    refine ⟨rfl, PFoot q' p bufv' pgs', ⟨G', [], q', mp', n', bufv', pgs', hP, ?_, (fun b hb => by cases hb), Nat.zero_le _, fun e => ?_, fun k => Iff.rfl⟩, hfr.mono (fun b _ hb => (h6 b).2 hb), fun b hb => ?_⟩
    · rw [mulB_cnt]
      funext i
      show G' i + 0 = cntB xs i * k
      rw [hG i, h2]; rfl
    · have e2 : xs = [] := mulB_nil.1 e
      rw [hn0 (by subst e2; exact List.eq_nil_of_length_eq_zero (by simpa using h4)), h5 e2]
    · rcases hft b hb with h | h
      · exact .inl ((h6 b).2 h)
      · exact .inr h
end Go.Proofs.YtnmbjalojgccmaaGreat
end
/-
  impl.Weighed, for every kind of store.
-/
section
namespace Go.Proofs.YtnmbjalojgccmaaGreat
open Go.RowKit

theorem Few.mul {kind most : Int} {xs : Bins} (h : Few kind most xs) {k : Nat} (hk : 0 < k) (ht : Go.Proofs.YtnmbjalojgccmaaGreat.tot xs * k < 1000000000) : Few kind most (mulB k xs) :=
  ⟨h.known, mulB_inR h.inR, mulB_pos hk h.pos, by rw [mulB_tot]; exact ht, by rw [mulB_length]; exact h.len⟩

set_option maxRecDepth 100000 in
set_option maxHeartbeats 400000 in
theorem weighed1_any {kind : Int} {K : StoreKind kind} (V : WeighKind K) (most : Int) (ao : Option Addr) (cp k : Nat) (xs : Bins) (b0 b1 b2 b3 : Nat) (w : World) (hf : Few kind most xs) (hl : Lie2 w ao (fb xs)) (hn : xs.length ≤ 60) (ht : tot xs < 1000000) (hk1 : 1 ≤ k) (hk2 : k ≤ 100)
   (h0 : w.cell? ⟨b0, 0, none⟩ = some (.int .i64 kind)) (h1 : w.cell? ⟨b1, 0, none⟩ = some (.int .i64 most)) (h2 : w.cell? ⟨b2, 0, none⟩ = some (.slice ao xs.length cp)) (h3 : w.cell? ⟨b3, 0, none⟩ = some (.float .f64 (nf k))) :
    Calls Tryz.prog 38 #[.pointer (some ⟨b0, 0, none⟩), .pointer (some ⟨b1, 0, none⟩), .pointer (some ⟨b2, 0, none⟩), .pointer (some ⟨b3, 0, none⟩)] w fun e w' => GivesStore K most (mulB k xs) w e w' := by
  have HF := filled_any K most ao cp xs w hf.known hl hf.inR hf.pos hf.tot hn
  have hb3 := World.block_lt_of_cell? w _ h3
  have HFW := Lib.hid hf
  clear hl hf
  go_enter Tryz.func38, Tryz.ntmps38
  go_wp2_with fail
  refine HF.mono ?_
  clear HF
  rintro e w1 ⟨p, S, rfl, hst, hS, hb⟩
  have HW := V.cW most xs S p k w1 hst HFW.out hk1 hk2 ht hn
  have hM := V.mW p
  have hE := V.eW
  have c3 := (hb.cell hb3).trans h3
  have HS := Lib.hid hS
  have HB := Lib.hid hb
  obtain ⟨y, hy⟩ : ∃ y, y = nf k := ⟨_, rfl⟩
  rw [← hy] at HW c3
  clear hst hS hb h0 h1 h2 h3 hy hb3
  go_wp2_with (go_at_fn V.fW; (with_reducible refine HW.mono ?_); rintro e w2 ⟨rfl, S', hst2, hf2, hS2⟩; have HST2 := Lib.hid hst2; have HF2 := Lib.hid hf2; have HS2 := Lib.hid hS2; clear hst2 hf2 hS2 HW hM hE c3)
  go_quiet (fail)
  go_wp2
  go_ret2
  have hf12 : Fr (fun _ => False) w w2 := (fr_none_of_below HB.out).trans HF2.out (fun _ _ h => h) (fun i hi h => absurd hi (Nat.not_lt.2 (HS.out i h)))
  refine ⟨p, S', rfl, K.fr most (mulB k xs) S' p (fun _ => False) w2 _ HST2.out ((Fr.refl _ w2).drewN nq) (fun _ _ h => h), fun b hb => ?_, hf12.drewN nq⟩
  rcases HS2.out b hb with h | h
  · exact HS.out b h
  · have := HB.out.size; omega

set_option maxRecDepth 100000 in
set_option maxHeartbeats 400000 in
theorem weighed_any {kind : Int} {K : StoreKind kind} (D : ToldKind K) (V : WeighKind K) (most : Int) (ao : Option Addr) (cp k : Nat) (xs : Bins) (w : World) (hfew : Few kind most xs) (hl : Lie2 w ao (fb xs)) (hn : xs.length ≤ 60) (ht : tot xs < 1000000) (hk1 : 1 ≤ k) (hk2 : k ≤ 100) :
    Calls Tryz.prog 20 #[.int .i64 kind, .int .i64 most, .slice ao xs.length cp, .float .f64 (nf k)] w fun e w' => TellsState (mulB k xs) (keptB kind most (mulB k xs)) w e w' := by
  have hmf : ∀ (fn : Fn) (first cap : Array Value) (w : World), (Instr.makeFunc fn first cap).run Tryz.prog w = .ok (.func fn first cap) w := fun _ _ _ _ => rfl
  have hfm : Few kind most (mulB k xs) := Few.mul hfew (by omega) (by have := Nat.mul_le_mul (Nat.le_of_lt ht) hk2; omega)
  obtain ⟨W, hW⟩ : ∃ W, W = ((((w.alloc (.cells #[.int .i64 kind] 3)).alloc (.cells #[.int .i64 most] 3)).alloc (.cells #[.slice ao xs.length cp] 22)).alloc (.cells #[.float .f64 (nf k)] 30)).alloc (.cells #[.slice none 0 0, .float .f64 0, .bool false, .int .i64 0, .int .i64 0] 38) := ⟨_, rfl⟩
  have hWs : W.heap.size = w.heap.size + 5 := by rw [hW]; simp
  have hFW : Fr (fun _ => False) w W := by rw [hW]; exact (((((Fr.refl _ w).alloc _).alloc _).alloc _).alloc _).alloc _
  have hW0 : W.heap[w.heap.size]? = some (.cells #[.int .i64 kind] 3 (0, 0)) := by
    rw [hW, Below.heap_alloc _ _ _ (by simp <;> omega), Below.heap_alloc _ _ _ (by simp <;> omega), Below.heap_alloc _ _ _ (by simp <;> omega), Below.heap_alloc _ _ _ (by simp)]; exact heap_alloc_new w _
  have hW1 : W.heap[w.heap.size + 1]? = some (.cells #[.int .i64 most] 3 (0, 0)) := by
    rw [hW, Below.heap_alloc _ _ _ (by simp <;> omega), Below.heap_alloc _ _ _ (by simp <;> omega), Below.heap_alloc _ _ _ (by simp)]
    have := heap_alloc_new (w.alloc (.cells #[.int .i64 kind] 3)) (.cells #[.int .i64 most] 3)
    simpa using this
  have hW2 : W.heap[w.heap.size + 1 + 1]? = some (.cells #[.slice ao xs.length cp] 22 (0, 0)) := by
    rw [hW, Below.heap_alloc _ _ _ (by simp), Below.heap_alloc _ _ _ (by simp)]
    have := heap_alloc_new ((w.alloc (.cells #[.int .i64 kind] 3)).alloc (.cells #[.int .i64 most] 3)) (.cells #[.slice ao xs.length cp] 22)
    simpa using this
  have hW3 : W.heap[w.heap.size + 1 + 1 + 1]? = some (.cells #[.float .f64 (nf k)] 30 (0, 0)) := by
    rw [hW, Below.heap_alloc _ _ _ (by simp)]
    have := heap_alloc_new (((w.alloc (.cells #[.int .i64 kind] 3)).alloc (.cells #[.int .i64 most] 3)).alloc (.cells #[.slice ao xs.length cp] 22)) (.cells #[.float .f64 (nf k)] 30)
    simpa using this
  have hW4 : W.heap[w.heap.size + 1 + 1 + 1 + 1]? = some (.cells #[.slice none 0 0, .float .f64 0, .bool false, .int .i64 0, .int .i64 0] 38 (0, 0)) := by
    rw [hW]
    have := heap_alloc_new ((((w.alloc (.cells #[.int .i64 kind] 3)).alloc (.cells #[.int .i64 most] 3)).alloc (.cells #[.slice ao xs.length cp] 22)).alloc (.cells #[.float .f64 (nf k)] 30)) (.cells #[.slice none 0 0, .float .f64 0, .bool false, .int .i64 0, .int .i64 0] 38)
    simpa using this
  have H := told_any D most (mulB k xs) 38 #[.pointer (some ⟨w.heap.size, 0, none⟩), .pointer (some ⟨w.heap.size + 1, 0, none⟩), .pointer (some ⟨w.heap.size + 1 + 1, 0, none⟩), .pointer (some ⟨w.heap.size + 1 + 1 + 1, 0, none⟩)] W hfm
    (fun w => enters_of Tryz.func38 (by kernel_rfl) rfl _ w)
    (fun W2 hf => weighed1_any V most ao cp k xs _ _ _ _ W2 hfew ((hl.later ((hFW.trans hf (U := fun _ => False) (fun _ _ h => h) (fun _ _ h => h)).below (fun _ h => h.elim) (Nat.le_refl _)))) hn ht hk1 hk2
      (cell_of_row _ _ 0 _ _ _ (hf.heap hW0 (fun h => h))) (cell_of_row _ _ 0 _ _ _ (hf.heap hW1 (fun h => h))) (cell_of_row _ _ 0 _ _ _ (hf.heap hW2 (fun h => h))) (cell_of_row _ _ 0 _ _ _ (hf.heap hW3 (fun h => h))))
  have HO := fun ao c w2 => @state_out (keptB kind most (mulB k xs)) w W w2 (w.heap.size + 1 + 1 + 1 + 1) hFW (by omega) (by omega) _ _ _ _ _ hW4 ao c
  obtain ⟨ks, hks⟩ : ∃ ks, ks = keptB kind most (mulB k xs) := ⟨_, rfl⟩
  obtain ⟨ys, hys⟩ : ∃ ys, ys = mulB k xs := ⟨_, rfl⟩
  rw [← hks] at H HO ⊢
  rw [← hys] at H ⊢
  rw [hW] at H
  have HW := Lib.hid hW
  have HOO := Lib.hid HO
  obtain ⟨y, hy⟩ : ∃ y, y = nf k := ⟨_, rfl⟩
  rw [← hy] at H HW ⊢
  clear hW hWs hFW hW0 hW1 hW2 hW3 hW4 hfew hks hl HO hfm hys hy
  go_enter Tryz.func20, Tryz.ntmps20
  go_wp2_with fail
  refine H.mono ?_
  clear H
  rintro e w2 ⟨ao2, c2, rfl, h1, h2, h3⟩
  rw [← HW.out] at h2 h3
  obtain ⟨g1, g2⟩ := HOO.out ao2 c2 w2 h1 h2 h3
  have s5 := state_set5 (.slice ao2 ks.length c2) (.float .f64 (nf (tot ys))) (.bool ys.isEmpty) (.int .i64 (lowE ys ks)) (.int .i64 (topE ys ks)) g1
  have S5 := Lib.hid s5
  have y0 := frozen_of_row w2 (w.heap.size + 1 + 1 + 1 + 1) 0 _ _ g1
  have y1 := frozen_of_row w2 (w.heap.size + 1 + 1 + 1 + 1) 1 _ _ g1
  have y2 := frozen_of_row w2 (w.heap.size + 1 + 1 + 1 + 1) 2 _ _ g1
  have y3 := frozen_of_row w2 (w.heap.size + 1 + 1 + 1 + 1) 3 _ _ g1
  have y4 := frozen_of_row w2 (w.heap.size + 1 + 1 + 1 + 1) 4 _ _ g1
  obtain ⟨z0, z1, z2, z3, z4⟩ := state_cells g1
  have G2 := Lib.hid g2
  clear g1 g2 s5 h1 h2 h3
  unfold stateV
  go_wp2
  refine bodyPost_ret (v := .tuple #[.agg (stateV ao2 c2 ys ks), .bool true]) (by simp only [results, Tryz.results20, stateV]; simp [go_sem, z0, z1, z2, z3, z4]) rfl ?_
  obtain ⟨a1, a2, a3⟩ := G2.out _ S5.out.2
  exact ⟨ao2, c2, rfl, a1, a2, a3⟩
end Go.Proofs.YtnmbjalojgccmaaGreat
end
