/-
  The store with pages: TotalCount, IsEmpty, sortBuffer.
-/
import Derived.Test.YtnmbjalojgccmaaGreatQX
import Derived.Test.YtnmbjalojgccmaaGreatQR
import Derived.Test.YtnmbjalojgccmaaGreatQK
section
namespace Go.Proofs.YtnmbjalojgccmaaGreat
open Go.RowKit
variable {tg : Int}

section
variable {G : Int → Nat} {bs : List Int} {q : Int → Option (Nat × Nat)} {mp : Int} {n p : Nat} {bufv pgs : Value} {w : World}
theorem Paged.zeroAt (h : Paged tg G bs q mp n p bufv pgs w) {i : Int} (hi : q (i / 32) = none) : G i = 0 := by
  have := h.core.zero (i / 32) hi (i % 32) (by omega) (by omega)
  rwa [show 32 * (i / 32) + i % 32 = i from by omega] at this
theorem Paged.outside (h : Paged tg G bs q mp n p bufv pgs w) {x : Int} (hx : x < mp ∨ mp + n ≤ x) : q x = none := by
  cases hq : q x with
  | none => rfl
  | some z => obtain ⟨b, cp⟩ := z; have := h.inside x b cp hq; omega
theorem Paged.low (h : Paged tg G bs q mp n p bufv pgs w) {i : Int} (hi : i < 32 * mp) : G i = 0 := h.zeroAt (h.outside (by omega))
theorem Paged.high (h : Paged tg G bs q mp n p bufv pgs w) {i : Int} (hi : 32 * (mp + n) ≤ i) : G i = 0 := h.zeroAt (h.outside (by omega))
theorem Paged.hole (h : Paged tg G bs q mp n p bufv pgs w) {x : Int} (hx : q x = none) {i : Int} (h1 : 32 * x ≤ i) (h2 : i < 32 * (x + 1)) : G i = 0 := h.zeroAt (by rw [show i / 32 = x from by omega]; exact hx)
end

def TotP1 (G : Int → Nat) (L : Nat) (mp : Int) (n : Nat) (w wr : World) (v i : Value) : Prop :=
  ∃ j : Nat, j ≤ n ∧ i = .int .i64 (j : Int) ∧ v = .float .f64 (nf (L + cum G (32 * (mp + j)))) ∧ wr = w
def TotP2 (G : Int → Nat) (L : Nat) (x : Int) (w wr : World) (v i : Value) : Prop :=
  ∃ k : Nat, k ≤ 32 ∧ i = .int .i64 (k : Int) ∧ v = .float .f64 (nf (L + cum G (32 * x + k))) ∧ wr = w

set_option maxRecDepth 100000 in
set_option maxHeartbeats 400000 in
theorem totalP_any (G : Int → Nat) (bs : List Int) (q : Int → Option (Nat × Nat)) (mp : Int) (n p : Nat) (bufv pgs : Value) (w : World) (h : Paged tg G bs q mp n p bufv pgs w) (hz : ∀ i, i < -10000 ∨ 10000 < i → G i = 0) (hs : tot2 G + bs.length < 9007199254740992) :
    Calls Tryz.prog 310 #[.pointer (some ⟨p, 0, none⟩)] w fun e w' => e = .returned (.float .f64 (nf (bs.length + tot2 G))) ∧ w' = w := by
  obtain ⟨ao, n1, cb, rfl⟩ := owns_slice h.core.buf
  obtain rfl := owns_len h.core.buf
  obtain ⟨aq, n2, cq, hpgs⟩ := owns_slice h.core.row
  have hnq : n2 = n := by have h2 := h.core.row; rw [hpgs] at h2; exact owns_len h2
  subst hnq
  obtain ⟨d0, d1, d2, d3, d4, d5⟩ := h.core.fields.cells
  rw [hpgs] at d2
  have hcv := fun w : World => run_convert_int_float (P := Tryz.prog) w 3 30 .i64 .f64 ((bs.length : Nat) : Int) (by simp [Tryz.underlying3]) Tryz.underlying30
  have hcum : ∀ y, cum G y ≤ tot2 G := fun y => by
    by_cases c : y ≤ 10001
    · exact cum_le_tot G y c
    · rw [tot2_def, cum_same G 10001 y (by omega) (fun i h1 _ => hz i (.inr (by omega)))]; omega
  have hend : cum G (32 * (mp + n2)) = tot2 G := by
    by_cases c : 32 * (mp + n2) ≤ 10001
    · exact (tot2_eq G _ c (fun i hi => h.high hi)).symm
    · rw [tot2_def, cum_same G 10001 _ (by omega) (fun i h1 _ => hz i (.inr (by omega)))]
  have hbig : n2 < 1000000000 := by rcases h.bd with ⟨h1, _, _⟩ | ⟨_, h2, h3⟩ <;> omega
  have HCV := Lib.hid hcv
  have HH := Lib.hid h
  have HP := Lib.hid hpgs
  have HZ : Hid (∀ i, i < -10000 → G i = 0) := fun i hi => hz i (.inl hi)
  have HS := Lib.hid hs
  have HC := Lib.hid hcum
  have HE := Lib.hid hend
  have hnn : floatOfInt .f64 ((bs.length : Nat) : Int) = nf bs.length := rfl
  clear h hpgs hz hs hcum hend
  obtain ⟨L, hL⟩ : ∃ L, L = bs.length := ⟨_, rfl⟩
  have HL := Lib.hid hL
  rw [← hL] at d0 hcv hnn
  rw [← hL]
  clear hL HCV
  go_enter Tryz.func310, Tryz.ntmps310
  go_wp2
  go_loopw [3, 19] (fun v i wr => TotP1 G L mp n2 w wr v i) (fun _ i _ => n2 - (intOf i).toNat)
  case atStart => exact ⟨0, Nat.zero_le _, rfl, by rw [cum_none G _ (fun i hi => HH.out.low (by omega))]; rfl, rfl⟩
  case round =>
    obtain ⟨j, hj, rfl, rfl, rfl⟩ := hrel
    by_cases hlt : j < n2
    · obtain ⟨g, c0, hg2, hgc, hcell⟩ := HH.out.rowAt (by omega)
      rw [HP.out] at hg2
      cases hg2
      have hc := hcell j hlt
      have hltI : (j : Int) < (n2 : Int) := by omega
      have i1 : IntKind.i64.wrap ((j : Int) + 1) = (j : Int) + 1 := by rw [IntKind.wrap_i64]; omega
      cases hq : q (mp + (j : Int)) with
      | none =>
        rw [hq] at hc
        replace hc : wr.cell? ⟨g, j, none⟩ = some (.slice none 0 0) := hc
        have hsame : cum G (32 * (mp + ((j + 1 : Nat) : Int))) = cum G (32 * (mp + (j : Int))) := cum_same G _ _ (by omega) (fun i h1 h2 => HH.out.hole hq h1 (by omega))
        have HSM := Lib.hid hsame
        clear hcell hsame hq
        go_wp2
        go_loopw [3, 25] (fun v i wr2 => i = .int .i64 0 ∧ v = .float .f64 (nf (L + cum G (32 * (mp + (j : Int))))) ∧ wr2 = wr) (fun _ _ _ => 0)
        case atStart => exact ⟨rfl, rfl, rfl⟩
        case round =>
          obtain ⟨rfl, rfl, rfl⟩ := hrel
          go_wp2
          go_roundw
          case rel => exact ⟨j + 1, by omega, by go_num, by rw [HSM.out], rfl⟩
          case measure => simp [intOf]; omega
      | some z =>
        obtain ⟨b, cp⟩ := z
        rw [hq] at hc
        replace hc : wr.cell? ⟨g, j, none⟩ = some (.slice (some ⟨b, 0, none⟩) 32 cp) := hc
        have hrow := HH.out.core.page _ _ _ hq
        have HR := Lib.hid hrow
        clear hcell hrow hq
        go_wp2
        go_loopw [3, 25] (fun v i wr2 => TotP2 G L (mp + (j : Int)) wr wr2 v i) (fun _ i _ => 32 - (intOf i).toNat)
        case atStart => exact ⟨0, by omega, rfl, by rw [show 32 * (mp + (j : Int)) + ((0 : Nat) : Int) = 32 * (mp + (j : Int)) from by omega], rfl⟩
        case round =>
          obtain ⟨k, hk, rfl, rfl, rfl⟩ := hrel
          by_cases hk32 : k < 32
          · have hkI : (k : Int) < 32 := by omega
            have i2 : IntKind.i64.wrap ((k : Int) + 1) = (k : Int) + 1 := by rw [IntKind.wrap_i64]; omega
            have c0 := HR.out.cell k hk32
            have hst := cum_step HZ.out (32 * (mp + (j : Int)) + (k : Int))
            have hle := HC.out (32 * (mp + (j : Int)) + (k : Int) + 1)
            have hadd := fun w : World => run_float_arith (P := Tryz.prog) w .add 30 .f64 _ _ _ (nf_add (L + cum G (32 * (mp + (j : Int)) + (k : Int))) (G (32 * (mp + (j : Int)) + (k : Int))) (by have := HS.out; have := HL.out; omega))
            rw [Nat.add_assoc, ← hst] at hadd
            clear hst hle
            obtain ⟨y, hy⟩ : ∃ y, y = nf (G (32 * (mp + (j : Int)) + (k : Int))) := ⟨_, rfl⟩
            rw [← hy] at c0 hadd
            clear hy
            obtain ⟨z, hz⟩ : ∃ z, z = nf (L + cum G (32 * (mp + (j : Int)) + (k : Int) + 1)) := ⟨_, rfl⟩
            rw [← hz] at hadd
            have HZZ := Lib.hid hz
            clear hz
            go_wp2
            go_roundw
            case rel => exact ⟨k + 1, by omega, by go_num, by rw [HZZ.out, show 32 * (mp + (j : Int)) + ((k + 1 : Nat) : Int) = 32 * (mp + (j : Int)) + (k : Int) + 1 from by omega], rfl⟩
            case measure => simp [intOf]; omega
          · obtain rfl : k = 32 := by omega
            clear hk32 hk
            go_wp2
            go_roundw
            case rel => exact ⟨j + 1, by omega, by go_num, by rw [show 32 * (mp + ((j + 1 : Nat) : Int)) = 32 * (mp + (j : Int)) + ((32 : Nat) : Int) from by omega], rfl⟩
            case measure => simp [intOf]; omega
    · obtain rfl : j = n2 := by omega
      clear hlt
      go_wp2
      go_ret
      exact ⟨by rw [← HE.out]; rfl, rfl⟩
end Go.Proofs.YtnmbjalojgccmaaGreat
end
/-
  The store with pages: MinIndex. (Printed by gen_page11.py.)
-/
section
namespace Go.Proofs.YtnmbjalojgccmaaGreat
open Go.RowKit
variable {tg : Int}

theorem cellsI {w : World} {ao : Option Addr} {cb : Nat} {bs : List Int} (h : w.ownsRow 0 3 1 (.slice ao bs.length cb) bs.length (bs.map (Value.int .i64))) (h0 : 0 < bs.length) :
    ∃ g, ao = some ⟨g, 0, none⟩ ∧ ∀ k, (hk : k < bs.length) → w.cell? ⟨g, k, none⟩ = some (.int .i64 bs[k]) := by
  obtain ⟨hl, hg⟩ := lieI_of h
  rcases hl with h1 | h1
  · rw [h1] at h0; simp at h0
  · exact h1

theorem drewN2 (w : World) (a b : Nat) : (w.drewN a).drewN b = w.drewN (a + b) := by simp [World.drewN, Nat.add_assoc]

/-- The least so far of a list. -/
def MinP1 (bs : List Int) (w wr : World) (e z i : Value) : Prop :=
  ∃ (k : Nat) (m : Int), k ≤ bs.length ∧ i = .int .i64 (k : Int) ∧ e = .bool (decide (k = 0)) ∧ z = .int .i64 m ∧ Hid (0 < k → m ∈ bs ∧ ∀ j, (hj : j < bs.length) → j < k → m ≤ bs[j]) ∧ wr = w

def MinP2 (G : Int → Nat) (mp : Int) (n : Nat) (lim : Int → Prop) (w wr : World) (i : Value) : Prop :=
  ∃ (j t : Nat), j ≤ n ∧ i = .int .i64 (mp + (j : Int)) ∧ Hid (∀ i, i < 32 * (mp + j) → lim i → G i = 0) ∧ wr = w.drewN t
def MinP3 (G : Int → Nat) (x : Int) (e : Nat) (w wr : World) (i : Value) : Prop :=
  ∃ k : Nat, k ≤ e ∧ i = .int .i64 (k : Int) ∧ Hid (∀ i, 32 * x ≤ i → i < 32 * x + k → G i = 0) ∧ wr = w

theorem gt_zero {a : Nat} (ha : a < 9007199254740992) : (FloatKind.f64.format.order (nf a) 0 == some .gt) = decide (0 < a) := by
  have hord := nf_order a 0 ha (by decide)
  rw [nf_zero] at hord
  rw [hord]
  by_cases h : 0 < a
  · rw [Nat.compare_eq_gt.2 h, decide_eq_true h]; rfl
  · rw [show a = 0 from by omega]; rfl

theorem small_at {G : Int → Nat} (hz : ∀ i, i < -10000 ∨ 10000 < i → G i = 0) (hs : tot2 G < 9007199254740992) (x : Int) : G x < 9007199254740992 := by
  by_cases c : -10000 ≤ x ∧ x ≤ 10000
  · have := one_le_tot G x c.1 c.2; omega
  · rw [hz x (by omega)]; omega

set_option maxRecDepth 100000 in
set_option maxHeartbeats 1000000 in
theorem minPE_any (G : Int → Nat) (q : Int → Option (Nat × Nat)) (mp : Int) (n p : Nat) (bufv pgs : Value) (m : Int) (w : World) (h : Paged tg G [] q mp n p bufv pgs w) (hz : ∀ i, i < -10000 ∨ 10000 < i → G i = 0) (hs : tot2 G < 9007199254740992)
   (hm1 : 0 < G m) (hm2 : ∀ i, i < m → G i = 0) :
    Calls Tryz.prog 308 #[.pointer (some ⟨p, 0, none⟩)] w fun e w' => e = .returned (.tuple #[.int .i64 m, .nilIface]) ∧ ∃ t, w' = w.drewN t := by
  obtain ⟨ao, n1, cb, rfl⟩ := owns_slice h.core.buf
  obtain rfl := owns_len h.core.buf
  obtain ⟨d0, d1, d2, d3, d4, d5⟩ := h.core.fields.cells
  have hn : 0 < n := by
    rcases Nat.eq_zero_or_pos n with c | c
    · have := h.zeroAt (i := m) (h.outside (by omega)); omega
    · exact c
  have hbd : -330 ≤ mp ∧ mp + (n : Int) ≤ 330 := by rcases h.bd with ⟨h1, _, _⟩ | ⟨_, h2, h3⟩ <;> omega
  obtain ⟨g, c0, rfl, hgc, hcell⟩ := h.rowAt hn
  have i1 : IntKind.i64.wrap (mp + (n : Int)) = mp + (n : Int) := by rw [IntKind.wrap_i64]; omega
  have HIX := fun (w : World) h4 (k : Nat) (h1 : (0 : Int) ≤ (k : Int)) h2 x hx1 hx2 => index_any p x (k : Int) w h4 hx1 hx2 h1 h2
  have HFIN : Hid (∀ i0, 0 < G i0 → True → (∀ i, i < i0 → True → G i = 0) → i0 = m) := fun i0 h0 _ h1 => by
    rcases Int.lt_trichotomy i0 m with c | c | c
    · have := hm2 i0 c; omega
    · exact c
    · have := h1 m c trivial; omega
  have HM1 : Hid (m < 32 * (mp + (n : Int)) ∧ 0 < G m) := by
    refine ⟨?_, hm1⟩
    rcases Int.lt_or_le m (32 * (mp + (n : Int))) with c | c
    · exact c
    · have := h.high c; omega
  have HH := Lib.hid h
  have HC := Lib.hid hcell
  have HZ := Lib.hid hz
  have HS := Lib.hid hs
  have HX := Lib.hid HIX
  obtain ⟨E, hE⟩ : ∃ E : Nat, E = 32 := ⟨_, rfl⟩
  have h32 : IntKind.i64.wrap 32 = ((E : Nat) : Int) := by rw [IntKind.wrap_i64]; omega
  have HE := Lib.hid hE
  clear h hz hs hm1 hm2 HIX hcell hE
  go_enter Tryz.func308, Tryz.ntmps308
  go_wp2
  go_loopw [4, 5, 17] (fun e z i wr => e = .bool true ∧ z = .int .i64 0 ∧ i = .int .i64 0 ∧ wr = w) (fun _ _ _ _ => 0)
  case atStart => exact ⟨rfl, rfl, rfl, rfl⟩
  case round =>
    obtain ⟨rfl, rfl, rfl, rfl⟩ := hrel
    go_wp2
    go_loopw [8] (fun i w2 => MinP2 G mp n (fun _ => True) wr w2 i) (fun i _ => (mp + (n : Int) - intOf i).toNat)
    case atStart => exact ⟨0, 0, Nat.zero_le _, by go_num, (fun i hi _ => HH.out.low (by omega)), rfl⟩
    case round =>
      obtain ⟨j, t, hj, rfl, hG, rfl⟩ := hrel
      by_cases hlt : j < n
      · have q1 : decide (mp + (j : Int) < mp + (n : Int)) = true := by simp; omega
        have i2 : IntKind.i64.wrap (mp + (j : Int) - mp) = (j : Int) := by rw [IntKind.wrap_i64]; omega
        have i3 : IntKind.i64.wrap (mp + (j : Int) + 1) = mp + (j : Int) + 1 := by rw [IntKind.wrap_i64]; omega
        have hltI : (j : Int) < (n : Int) := by omega
        have hc := HC.out j hlt
        obtain ⟨wt, hwt⟩ : ∃ wt, wt = wr.drewN t := ⟨_, rfl⟩
        have HHt : Hid (Paged tg G [] q mp n p (.slice ao 0 cb) (.slice (some ⟨g, 0, none⟩) n c0) wt) := by show Paged tg _ _ _ _ _ _ _ _ _; rw [hwt]; exact HH.out.drewN t
        have HWT : Hid (∃ t, wt = wr.drewN t) := ⟨t, hwt⟩
        replace hc : wt.cell? ⟨g, j, none⟩ = some (pgV (q (mp + (j : Int)))) := by rw [hwt]; exact hc
        rw [← hwt]
        clear hwt d0 d1 d2 d3 d4 d5
        obtain ⟨d0, d1, d2, d3, d4, d5⟩ := HHt.out.core.fields.cells
        go_wp2
        go_quiet (fail)
        obtain ⟨wu, hwu⟩ : ∃ wu, wu = wt.drewN nq := ⟨_, rfl⟩
        have HHu : Hid (Paged tg G [] q mp n p (.slice ao 0 cb) (.slice (some ⟨g, 0, none⟩) n c0) wu) := by show Paged tg _ _ _ _ _ _ _ _ _; rw [hwu]; exact HHt.out.drewN nq
        have HWU : Hid (∃ t, wu = wr.drewN t) := by obtain ⟨t, ht⟩ := HWT.out; exact ⟨t + nq, by rw [hwu, ht, drewN2]⟩
        replace hc : wu.cell? ⟨g, j, none⟩ = some (pgV (q (mp + (j : Int)))) := by rw [hwu]; exact hc
        rw [← hwu]
        clear hwu d0 d1 d2 d3 d4 d5 HHt HWT
        obtain ⟨d0, d1, d2, d3, d4, d5⟩ := HHu.out.core.fields.cells
        go_wp2
        go_quiet (fail)
        obtain ⟨wv, hwv⟩ : ∃ wv, wv = wu.drewN nq := ⟨_, rfl⟩
        have HHv : Hid (Paged tg G [] q mp n p (.slice ao 0 cb) (.slice (some ⟨g, 0, none⟩) n c0) wv) := by show Paged tg _ _ _ _ _ _ _ _ _; rw [hwv]; exact HHu.out.drewN nq
        have HWV : Hid (∃ t, wv = wr.drewN t) := by obtain ⟨t, ht⟩ := HWU.out; exact ⟨t + nq, by rw [hwv, ht, drewN2]⟩
        rw [← hwv]
        clear hwv hc d0 d1 d2 d3 d4 d5 HHu HWU
        obtain ⟨d0, d1, d2, d3, d4, d5⟩ := HHv.out.core.fields.cells
        cases hq : q (mp + (j : Int)) with
        | none =>
          have hG2 : Hid (∀ i, i < 32 * (mp + ((j + 1 : Nat) : Int)) → (fun _ => True) i → G i = 0) := fun i hi hl => by
            by_cases c : i < 32 * (mp + (j : Int))
            · exact hG.out i c hl
            · exact HHv.out.hole hq (by omega) (by omega)
          rw [show pgV none = Value.slice none 0 0 from rfl]
          clear hG hq
          go_wp2
          go_roundw
          case rel => obtain ⟨t, ht⟩ := HWV.out; exact ⟨j + 1, t, by omega, by go_num, hG2, ht⟩
          case measure => simp [intOf]; omega
        | some zz =>
          obtain ⟨b, cp⟩ := zz
          rw [show pgV (some (b, cp)) = Value.slice (some ⟨b, 0, none⟩) 32 cp from rfl]
          have HR := Lib.hid (HHv.out.core.page _ _ _ hq)
          clear hq
          have HREST : Hid (∀ i, 32 * (mp + (j : Int)) ≤ i → i < 32 * (mp + ((j + 1 : Nat) : Int)) → True → i < 32 * (mp + (j : Int)) + ((E : Nat) : Int)) := fun i h1 h2 _ => by have := HE.out; omega
          go_wp2
          go_loopw [11] (fun i w3 => MinP3 G (mp + (j : Int)) E wv w3 i) (fun i _ => E - (intOf i).toNat)
          case atStart => exact ⟨0, by omega, rfl, (fun i h1 h2 => by omega), rfl⟩
          case round =>
            obtain ⟨k, hk, rfl, hGk, rfl⟩ := hrel
            by_cases hkE : k < E
            · have hkI : (k : Int) < ((E : Nat) : Int) := by omega
              have hkI32 : (k : Int) < 32 := by have := HE.out; omega
              have i5 : IntKind.i64.wrap ((k : Int) + 1) = (k : Int) + 1 := by rw [IntKind.wrap_i64]; omega
              have cl := HR.out.cell k (by omega)
              have hgt := gt_zero (small_at HZ.out HS.out (32 * (mp + (j : Int)) + (k : Int)))
              obtain ⟨y, hy⟩ : ∃ y, y = nf (G (32 * (mp + (j : Int)) + (k : Int))) := ⟨_, rfl⟩
              rw [← hy] at cl hgt
              clear hy
              by_cases hpos : 0 < G (32 * (mp + (j : Int)) + (k : Int))
              · rw [decide_eq_true hpos] at hgt
                have hres : Hid (32 * (mp + (j : Int)) + (k : Int) = m) := HFIN.out _ hpos trivial (fun i hi hl => by
                  by_cases c : i < 32 * (mp + (j : Int))
                  · exact hG.out i c hl
                  · exact hGk.out i (by omega) hi)
                have HI := HX.out _ d4 k (by omega) (by omega) (mp + (j : Int)) (by omega) (by omega)
                clear hGk hpos hG
                go_wp2_with (go_at_call 316; (with_reducible refine HI.mono ?_); rintro e w' ⟨rfl, rfl⟩)
                go_ret2
                exact ⟨by rw [← hres.out]; rfl, HWV.out⟩
              · rw [decide_eq_false hpos] at hgt
                have hG3 : Hid (∀ i, 32 * (mp + (j : Int)) ≤ i → i < 32 * (mp + (j : Int)) + ((k + 1 : Nat) : Int) → G i = 0) := fun i h1 h2 => by
                  by_cases c : i < 32 * (mp + (j : Int)) + (k : Int)
                  · exact hGk.out i h1 c
                  · rw [show i = 32 * (mp + (j : Int)) + (k : Int) from by omega]; omega
                clear hGk hpos
                go_wp2
                go_roundw
                case rel => exact ⟨k + 1, by omega, by go_num, hG3, rfl⟩
                case measure => simp [intOf]; omega
            · obtain rfl : k = E := by omega
              have hG2 : Hid (∀ i, i < 32 * (mp + ((j + 1 : Nat) : Int)) → (fun _ => True) i → G i = 0) := fun i hi hl => by
                by_cases c : i < 32 * (mp + (j : Int))
                · exact hG.out i c hl
                · exact hGk.out i (by omega) (by have := HREST.out i (by omega) hi hl; omega)
              clear hkE hk hG hGk
              go_wp2
              go_roundw
              case rel => obtain ⟨t, ht⟩ := HWV.out; exact ⟨j + 1, t, by omega, by go_num, hG2, ht⟩
              case measure => simp [intOf]; omega
      · exfalso
        obtain rfl : j = n := by omega
        have h1 := hG.out m HM1.out.1 trivial
        have := HM1.out.2; omega
end Go.Proofs.YtnmbjalojgccmaaGreat
end
/-
  The store with pages: an empty one's least and greatest index; the buffer sorted.
-/
section
namespace Go.Proofs.YtnmbjalojgccmaaGreat
open Go.RowKit
variable {tg : Int}

set_option maxRecDepth 100000 in
theorem minP0_any (G : Int → Nat) (q : Int → Option (Nat × Nat)) (mp : Int) (p : Nat) (bufv pgs : Value) (w : World) (h : Paged tg G [] q mp 0 p bufv pgs w) :
    Calls Tryz.prog 308 #[.pointer (some ⟨p, 0, none⟩)] w fun e w' => (∃ T v, e = .returned (.tuple #[.int .i64 0, .iface T v])) ∧ ∃ t, w' = w.drewN t := by
  obtain ⟨ao, n1, cb, rfl⟩ := owns_slice h.core.buf
  obtain rfl := owns_len h.core.buf
  obtain ⟨d0, d1, d2, d3, d4, d5⟩ := h.core.fields.cells
  have hbd : mp = 9223372036854775807 ∧ pgs = .slice none 0 0 := by rcases h.bd with ⟨_, h1, h2⟩ | ⟨h1, _⟩; exact ⟨h1, h2⟩; omega
  obtain ⟨rfl, rfl⟩ := hbd
  clear h
  go_enter Tryz.func308, Tryz.ntmps308
  go_wp2
  go_loopw [4, 5, 17] (fun e z i wr => e = .bool true ∧ z = .int .i64 0 ∧ i = .int .i64 0 ∧ wr = w) (fun _ _ _ _ => 0)
  case atStart => exact ⟨rfl, rfl, rfl, rfl⟩
  case round =>
    obtain ⟨rfl, rfl, rfl, rfl⟩ := hrel
    go_wp2
    go_loopw [8] (fun i w2 => i = .int .i64 9223372036854775807 ∧ w2 = wr) (fun _ _ => 0)
    case atStart => exact ⟨rfl, rfl⟩
    case round =>
      obtain ⟨rfl, rfl⟩ := hrel
      go_wp2
      go_quiet (fail)
      go_wp2
      go_ret2
      exact ⟨⟨_, _, rfl⟩, _, rfl⟩

set_option maxRecDepth 100000 in
theorem maxP0_any (G : Int → Nat) (q : Int → Option (Nat × Nat)) (mp : Int) (p : Nat) (bufv pgs : Value) (w : World) (h : Paged tg G [] q mp 0 p bufv pgs w) :
    Calls Tryz.prog 306 #[.pointer (some ⟨p, 0, none⟩)] w fun e w' => (∃ T v, e = .returned (.tuple #[.int .i64 0, .iface T v])) ∧ ∃ t, w' = w.drewN t := by
  obtain ⟨ao, n1, cb, rfl⟩ := owns_slice h.core.buf
  obtain rfl := owns_len h.core.buf
  obtain ⟨d0, d1, d2, d3, d4, d5⟩ := h.core.fields.cells
  have hbd : mp = 9223372036854775807 ∧ pgs = .slice none 0 0 := by rcases h.bd with ⟨_, h1, h2⟩ | ⟨h1, _⟩; exact ⟨h1, h2⟩; omega
  obtain ⟨rfl, rfl⟩ := hbd
  clear h
  go_enter Tryz.func306, Tryz.ntmps306
  go_wp2
  go_loopw [4, 5, 17] (fun e z i wr => e = .bool true ∧ z = .int .i64 0 ∧ i = .int .i64 0 ∧ wr = w) (fun _ _ _ _ => 0)
  case atStart => exact ⟨rfl, rfl, rfl, rfl⟩
  case round =>
    obtain ⟨rfl, rfl, rfl, rfl⟩ := hrel
    go_wp2
    go_quiet (fail)
    obtain ⟨w1, hw1⟩ : ∃ w1, w1 = wr.drewN nq := ⟨_, rfl⟩
    have HW := Lib.hid hw1
    replace d3 : w1.cell? ⟨p, 3, none⟩ = some (.int .i64 9223372036854775807) := by rw [hw1]; exact d3
    rw [← hw1]
    clear hw1 d0 d1 d2 d4 d5
    go_wp2
    go_loopw [8] (fun i w2 => i = .int .i64 9223372036854775806 ∧ w2 = w1) (fun _ _ => 0)
    case atStart => exact ⟨rfl, rfl⟩
    case round =>
      obtain ⟨rfl, rfl⟩ := hrel
      go_wp2
      go_ret2
      exact ⟨⟨_, _, rfl⟩, nq, HW.out⟩

/-- The buffer written anew, in its own row. -/
theorem Paged.bufSet {G : Int → Nat} {bs bs' : List Int} {q : Int → Option (Nat × Nat)} {mp : Int} {n p : Nat} {bufv pgs : Value} {w w' : World} (h : Paged tg G bs q mp n p bufv pgs w) (hown : w'.ownsRow 0 3 1 bufv bs'.length (bs'.map (Value.int .i64))) (hgr : w.grownBy w' bufv.ownBlock) :
    Paged tg G bs' q mp n p bufv pgs w' := by
  have hbp : bufv.ownBlock ≠ some p := fun e => by obtain ⟨_, hc⟩ := owns_tag h.core.buf e; exact tag_ne hc h.core.fields (by decide) rfl
  have hf : PS w' p bufv tg pgs mp := (hgr.block p h.core.fields.lt (fun e => hbp e.symm)).trans h.core.fields
  refine ⟨⟨hf, hown, ?_, fun x b cp hx => ?_, h.core.zero, h.core.inj⟩, h.inside, h.bd⟩
  · refine h.core.row.kept hgr ?_
    cases e : pgs.ownBlock with
    | none => exact .inl rfl
    | some k =>
      right; intro e2
      obtain ⟨_, hc⟩ := owns_tag h.core.row e; obtain ⟨_, hc2⟩ := owns_tag h.core.buf e2.symm; exact tag_ne hc hc2 (by decide) rfl
  · obtain ⟨_, hc, _⟩ := (h.core.page x b cp hx).block
    refine World.ownsRow.kept (h.core.page x b cp hx) hgr (.inr (fun e => ?_))
    obtain ⟨_, hc2⟩ := owns_tag h.core.buf e.symm
    exact tag_ne hc hc2 (by decide) rfl

/-- Behind the sort of the buffer. -/
def SortedBuf (tg : Int) (G : Int → Nat) (bs : List Int) (q : Int → Option (Nat × Nat)) (mp : Int) (n p : Nat) (bufv pgs : Value) (w : World) (e : Ending) (w' : World) : Prop :=
  ∃ bs', e = .returned (.tuple #[]) ∧ bs'.Perm bs ∧ bs'.Pairwise (· ≤ ·) ∧ Paged tg G bs' q mp n p bufv pgs w' ∧ Fr (fun k => bufv.ownBlock = some k) w w'

set_option maxRecDepth 100000 in
set_option maxHeartbeats 400000 in
theorem sortBuf_any (G : Int → Nat) (bs : List Int) (q : Int → Option (Nat × Nat)) (mp : Int) (n p : Nat) (bufv pgs : Value) (w : World) (h : Paged tg G bs q mp n p bufv pgs w) (hl : bs.length < 1000000000) :
    Calls Tryz.prog 315 #[.pointer (some ⟨p, 0, none⟩)] w fun e w' => SortedBuf tg G bs q mp n p bufv pgs w e w' := by
  obtain ⟨d0, -, -, -, -, -⟩ := h.core.fields.cells
  rcases id h.core.buf.2 with ⟨hv, hl0⟩ | ⟨g, cap, cur, hv, hb, hg, hn, hmx, hsz, ht⟩
  · subst hv
    have hbs : bs = [] := List.eq_nil_of_length_eq_zero hl0
    subst hbs
    have HS := fun w => Tryz.sort_Ints_none none 0 w
    have HH := Lib.hid h
    clear h
    go_enter Tryz.func315, Tryz.ntmps315
    go_wp2_with (go_at_call 321; (with_reducible refine (HS _).mono ?_); rintro e w7 ⟨rfl, rfl⟩)
    go_end0
    exact ⟨[], rfl, List.Perm.refl _, List.Pairwise.nil, HH.out, Fr.refl _ _⟩
  · subst hv
    rw [Nat.mul_one] at ht
    have hH := holds_of_blockI hg ht
    have HS := Tryz.sort_Ints g 0 cap bs w hH (lt_of_block hg) (by omega)
    have HH := Lib.hid h
    have HG2 := Lib.hid hg
    have HSZ := Lib.hid hsz
    clear h hg hH hsz ht
    go_enter Tryz.func315, Tryz.ntmps315
    go_wp2_with (go_at_call 321; (with_reducible refine HS.mono ?_); rintro e w7 ⟨rfl, nn, os, rfl⟩)
    go_end0
    have hp := List.mergeSort_perm bs (fun x y => decide (x ≤ y))
    have hrow := ownsRow_sortedI (base := 0) (n := nn) (os := os) hp.length_eq hb HG2.out hn hmx HSZ.out
    have hgr := grownBy_sortedI (w := w) (g := g) (n := nn) (os := os) (bs.mergeSort fun x y => decide (x ≤ y)).toArray
    have hle := hp.length_eq
    refine ⟨bs.mergeSort fun x y => decide (x ≤ y), rfl, hp, ?_, HH.out.bufSet (by rw [hle]; exact hrow) hgr, ⟨hgr.os, hgr.tape, hgr.output, hgr.size, fun k hk hne => hgr.block k hk (fun e => hne e.symm)⟩⟩
    have h := List.pairwise_mergeSort (le := fun x y : Int => decide (x ≤ y)) (fun a b c h1 h2 => by simp at h1 h2 ⊢; omega) (fun a b => by simp; omega) bs
    exact h.imp (fun h => by simpa using h)
end Go.Proofs.YtnmbjalojgccmaaGreat
end
