/-
  The store with pages: IsEmpty.
-/
import Derived.Test.YtnmbjalojgccmaaGreatQYF
section
namespace Go.Proofs.YtnmbjalojgccmaaGreat
open Go.RowKit
variable {tg : Int}

def EmpP1 (G : Int → Nat) (mp : Int) (n : Nat) (w wr : World) (i : Value) : Prop :=
  ∃ j : Nat, j ≤ n ∧ i = .int .i64 (j : Int) ∧ Hid (∀ i, i < 32 * (mp + j) → G i = 0) ∧ wr = w
def EmpP2 (G : Int → Nat) (x : Int) (w wr : World) (i : Value) : Prop :=
  ∃ k : Nat, k ≤ 32 ∧ i = .int .i64 (k : Int) ∧ Hid (∀ i, i < 32 * x + k → G i = 0) ∧ wr = w

set_option maxRecDepth 100000 in
set_option maxHeartbeats 400000 in
theorem isEmptyP_any (G : Int → Nat) (bs : List Int) (q : Int → Option (Nat × Nat)) (mp : Int) (n p : Nat) (bufv pgs : Value) (w : World) (h : Paged tg G bs q mp n p bufv pgs w) (hz : ∀ i, i < -10000 ∨ 10000 < i → G i = 0) (hs : tot2 G < 9007199254740992) :
    Calls Tryz.prog 304 #[.pointer (some ⟨p, 0, none⟩)] w fun e w' => (∃ B, e = .returned (.bool B) ∧ (B = true ↔ ∀ i, both G bs i = 0)) ∧ w' = w := by
  obtain ⟨ao, n1, cb, rfl⟩ := owns_slice h.core.buf
  obtain rfl := owns_len h.core.buf
  obtain ⟨aq, n2, cq, hpgs⟩ := owns_slice h.core.row
  have hnq : n2 = n := by have h2 := h.core.row; rw [hpgs] at h2; exact owns_len h2
  subst hnq
  obtain ⟨d0, d1, d2, d3, d4, d5⟩ := h.core.fields.cells
  rw [hpgs] at d2
  have hbig : n2 < 1000000000 := by rcases h.bd with ⟨h1, _, _⟩ | ⟨_, h2, h3⟩ <;> omega
  have hb : Hid (0 < bs.length → ¬ ∀ i, both G bs i = 0) := fun h0 h1 => by
    have h2 := h1 (bs[0]'h0)
    have h3 := cntI_mem (List.getElem_mem h0)
    have : G bs[0] + cntI bs bs[0] = 0 := h2
    omega
  have HH := Lib.hid h
  have HP := Lib.hid hpgs
  have HZ := Lib.hid hz
  have HS := Lib.hid hs
  clear h hpgs hz hs
  by_cases hlen : 0 < bs.length
  · have hlI : (0 : Int) < ((bs.length : Nat) : Int) := by omega
    go_enter Tryz.func304, Tryz.ntmps304
    go_wp2
    go_ret
    exact ⟨⟨false, rfl, ⟨(fun e => by cases e), fun e => absurd e (hb.out hlen)⟩⟩, rfl⟩
  · have hnil : Hid (bs = []) := List.eq_nil_of_length_eq_zero (by omega)
    have hl0 : bs.length = 0 := by omega
    rw [hl0] at d0
    clear hb
    go_enter Tryz.func304, Tryz.ntmps304
    go_wp2
    go_loopw [18] (fun i wr => EmpP1 G mp n2 w wr i) (fun i _ => n2 - (intOf i).toNat)
    case atStart => exact ⟨0, Nat.zero_le _, rfl, (fun i hi => HH.out.low (by omega)), rfl⟩
    case round =>
      obtain ⟨j, hj, rfl, hG, rfl⟩ := hrel
      by_cases hlt : j < n2
      · obtain ⟨g, c0, hg2, hgc, hcell⟩ := HH.out.rowAt (by omega)
        rw [HP.out] at hg2
        cases hg2
        have hc := hcell j hlt
        have hltI : (j : Int) < (n2 : Int) := by omega
        have i1 : IntKind.i64.wrap ((j : Int) + 1) = (j : Int) + 1 := by rw [IntKind.wrap_i64]; omega
        cases hq : q (mp + (j : Int)) with
        | none =>
          rw [hq] at hc
          replace hc : wr.cell? ⟨g, j, none⟩ = some (.slice none 0 0) := hc
          have hG2 : Hid (∀ i, i < 32 * (mp + ((j + 1 : Nat) : Int)) → G i = 0) := fun i hi => by
            by_cases c : i < 32 * (mp + (j : Int))
            · exact hG.out i c
            · exact HH.out.hole hq (by omega) (by omega)
          clear hcell hq hG
          go_wp2
          go_loopw [24] (fun i wr2 => i = .int .i64 0 ∧ wr2 = wr) (fun _ _ => 0)
          case atStart => exact ⟨rfl, rfl⟩
          case round =>
            obtain ⟨rfl, rfl⟩ := hrel
            go_wp2
            go_roundw
            case rel => exact ⟨j + 1, by omega, by go_num, hG2, rfl⟩
            case measure => simp [intOf]; omega
        | some z =>
          obtain ⟨b, cp⟩ := z
          rw [hq] at hc
          replace hc : wr.cell? ⟨g, j, none⟩ = some (.slice (some ⟨b, 0, none⟩) 32 cp) := hc
          have hrow := HH.out.core.page _ _ _ hq
          have HR := Lib.hid hrow
          clear hcell hrow hq
          go_wp2
          go_loopw [24] (fun i wr2 => EmpP2 G (mp + (j : Int)) wr wr2 i) (fun i _ => 32 - (intOf i).toNat)
          case atStart => exact ⟨0, by omega, rfl, (fun i hi => hG.out i (by omega)), rfl⟩
          case round =>
            obtain ⟨k, hk, rfl, hGk, rfl⟩ := hrel
            by_cases hk32 : k < 32
            · have hkI : (k : Int) < 32 := by omega
              have i2 : IntKind.i64.wrap ((k : Int) + 1) = (k : Int) + 1 := by rw [IntKind.wrap_i64]; omega
              have c0 := HR.out.cell k hk32
              obtain ⟨x, hx⟩ : ∃ x, x = 32 * (mp + (j : Int)) + (k : Int) := ⟨_, rfl⟩
              rw [← hx] at c0 hGk
              have hb := one_le_tot G x
              have hGx : G x < 9007199254740992 := by
                by_cases c : -10000 ≤ x ∧ x ≤ 10000
                · have := hb c.1 c.2; have := HS.out; omega
                · rw [HZ.out x (by omega)]; omega
              have hord := nf_order (G x) 0 hGx (by decide)
              rw [nf_zero] at hord
              have HX := Lib.hid hx
              clear hb hGx hx
              by_cases hpos : 0 < G x
              · have hgt : (FloatKind.f64.format.order (nf (G x)) 0 == some .gt) = true := by rw [hord, Nat.compare_eq_gt.2 hpos]; rfl
                have HPOS := Lib.hid hpos
                obtain ⟨y, hy⟩ : ∃ y, y = nf (G x) := ⟨_, rfl⟩
                rw [← hy] at c0 hgt
                clear hord hy hpos
                go_wp2
                go_ret
                refine ⟨⟨false, rfl, ⟨fun e => (by cases e), fun e => ?_⟩⟩, rfl⟩
                have h1 : G x + cntI bs x = 0 := e x
                have := HPOS.out; omega
              · have hgt : (FloatKind.f64.format.order (nf (G x)) 0 == some .gt) = false := by rw [hord, show G x = 0 from by omega]; rfl
                have hG3 : Hid (∀ i, i < 32 * (mp + (j : Int)) + ((k + 1 : Nat) : Int) → G i = 0) := fun i hi => by
                  by_cases c : i < x
                  · exact hGk.out i c
                  · have := HX.out
                    rw [show i = x from by omega]; omega
                obtain ⟨y, hy⟩ : ∃ y, y = nf (G x) := ⟨_, rfl⟩
                rw [← hy] at c0 hgt
                clear hord hy hpos hGk
                go_wp2
                go_roundw
                case rel => exact ⟨k + 1, by omega, by go_num, hG3, rfl⟩
                case measure => simp [intOf]; omega
            · obtain rfl : k = 32 := by omega
              clear hk32 hk
              go_wp2
              go_roundw
              case rel => exact ⟨j + 1, by omega, by go_num, (fun i hi => hGk.out i (by omega)), rfl⟩
              case measure => simp [intOf]; omega
      · obtain rfl : j = n2 := by omega
        clear hlt
        go_wp2
        go_ret
        refine ⟨⟨true, rfl, ⟨fun _ i => ?_, fun _ => rfl⟩⟩, rfl⟩
        show G i + cntI bs i = 0
        rw [hnil.out]
        by_cases c : i < 32 * (mp + (j : Int))
        · rw [hG.out i c]; rfl
        · rw [HH.out.high (by omega)]; rfl
end Go.Proofs.YtnmbjalojgccmaaGreat
end
/-
  The store with pages: MinIndex. (Printed by gen_page11.py.)
-/
section
namespace Go.Proofs.YtnmbjalojgccmaaGreat
open Go.RowKit
variable {tg : Int}

set_option maxRecDepth 100000 in
set_option maxHeartbeats 1000000 in
theorem minPN_any (G : Int → Nat) (bs : List Int) (q : Int → Option (Nat × Nat)) (mp : Int) (n p : Nat) (bufv pgs : Value) (m : Int) (w : World) (h : Paged tg G bs q mp n p bufv pgs w) (h0 : 0 < bs.length) (hz : ∀ i, i < -10000 ∨ 10000 < i → G i = 0) (hs : tot2 G < 9007199254740992)
   (hm1 : 0 < both G bs m) (hm2 : ∀ i, i < m → both G bs i = 0) (hI : InI bs) (hbl : bs.length < 1000000000) :
    Calls Tryz.prog 308 #[.pointer (some ⟨p, 0, none⟩)] w fun e w' => e = .returned (.tuple #[.int .i64 m, .nilIface]) ∧ ∃ t, w' = w.drewN t := by
  obtain ⟨ao, n1, cb, rfl⟩ := owns_slice h.core.buf
  obtain rfl := owns_len h.core.buf
  obtain ⟨gb, rfl, hbc⟩ := cellsI h.core.buf h0
  obtain ⟨aq, n2, cq, hpgs⟩ := owns_slice h.core.row
  have hnq : n2 = n := by have h2 := h.core.row; rw [hpgs] at h2; exact owns_len h2
  subst hnq
  obtain ⟨n, hn2⟩ : ∃ n, n = n2 := ⟨_, rfl⟩
  subst hn2
  obtain ⟨d0, d1, d2, d3, d4, d5⟩ := h.core.fields.cells
  rw [hpgs] at d2
  have i1 : IntKind.i64.wrap (mp + (n : Int)) = mp + (n : Int) := by rw [IntKind.wrap_i64]; rcases h.bd with ⟨h1, h2, _⟩ | ⟨_, h2, h3⟩ <;> omega
  have HIX := fun (w : World) h4 (k : Nat) (h1 : (0 : Int) ≤ (k : Int)) h2 x hx1 hx2 => index_any p x (k : Int) w h4 hx1 hx2 h1 h2
  have HBD : Hid ((n = 0 ∧ mp = 9223372036854775807) ∨ (0 < n ∧ -330 ≤ mp ∧ mp + (n : Int) ≤ 330)) := by rcases h.bd with ⟨h1, h2, _⟩ | h2; exact .inl ⟨h1, h2⟩; exact .inr h2
  have HM : Hid (0 < both G bs m ∧ ∀ i, i < m → both G bs i = 0) := ⟨hm1, hm2⟩
  have HH := Lib.hid h
  have HBC : Hid (∀ k, (hk : k < bs.length) → w.cell? ⟨gb, k, none⟩ = some (.int .i64 bs[k])) := hbc
  have HZ := Lib.hid hz
  have HS := Lib.hid hs
  have HX := Lib.hid HIX
  have HP := Lib.hid hpgs
  have HI1 := Lib.hid hI
  have HPOS := Lib.hid h0
  clear h hz hs hm1 hm2 HIX hbc hpgs hI h0
  go_enter Tryz.func308, Tryz.ntmps308
  go_wp2
  go_loopw [4, 5, 17] (fun e z i wr => MinP1 bs w wr e z i) (fun _ _ i _ => bs.length - (intOf i).toNat)
  case atStart => exact ⟨0, 0, Nat.zero_le _, rfl, rfl, rfl, fun h => by omega, rfl⟩
  case round =>
    obtain ⟨k, z, hk, rfl, rfl, rfl, hmin, rfl⟩ := hrel
    by_cases hlt : k < bs.length
    · have hltI : (k : Int) < ((bs.length : Nat) : Int) := by omega
      have c0 := HBC.out k hlt
      have i2 : IntKind.i64.wrap ((k : Int) + 1) = (k : Int) + 1 := by rw [IntKind.wrap_i64]; omega
      by_cases hk0 : k = 0
      · subst hk0
        have hnew : Hid (0 < 0 + 1 → bs[0] ∈ bs ∧ ∀ j, (hj : j < bs.length) → j < 0 + 1 → bs[0] ≤ bs[j]) := fun _ => ⟨List.getElem_mem hlt, fun j hj hj1 => by obtain rfl : j = 0 := (by omega); exact Int.le_refl _⟩
        obtain ⟨x, hx⟩ : ∃ x, x = bs[0] := ⟨_, rfl⟩
        rw [← hx] at c0 hnew
        clear hx hmin
        rw [decide_eq_true (rfl : (0 : Nat) = 0)]
        go_wp2
        go_roundw
        case rel => exact ⟨1, x, by omega, by go_num, rfl, rfl, hnew, rfl⟩
        case measure => simp [intOf]; omega
      · rw [decide_eq_false hk0]
        by_cases hle : bs[k] < z
        · have hnew : Hid (0 < k + 1 → bs[k] ∈ bs ∧ ∀ j, (hj : j < bs.length) → j < k + 1 → bs[k] ≤ bs[j]) := fun _ => ⟨List.getElem_mem hlt, fun j hj hj1 => by
            by_cases c : j = k
            · subst c; exact Int.le_refl _
            · have := (hmin.out (by omega)).2 j hj (by omega); omega⟩
          obtain ⟨x, hx⟩ : ∃ x, x = bs[k] := ⟨_, rfl⟩
          rw [← hx] at c0 hnew hle
          clear hx hmin
          go_wp2
          go_roundw
          case rel => exact ⟨k + 1, x, by omega, by go_num, by rw [decide_eq_false (by omega)], rfl, hnew, rfl⟩
          case measure => simp [intOf]; omega
        · have hnew : Hid (0 < k + 1 → z ∈ bs ∧ ∀ j, (hj : j < bs.length) → j < k + 1 → z ≤ bs[j]) := fun _ => ⟨(hmin.out (by omega)).1, fun j hj hj1 => by
            by_cases c : j = k
            · subst c; omega
            · exact (hmin.out (by omega)).2 j hj (by omega)⟩
          obtain ⟨x, hx⟩ : ∃ x, x = bs[k] := ⟨_, rfl⟩
          rw [← hx] at c0 hle
          clear hx hmin
          go_wp2
          go_roundw
          case rel => exact ⟨k + 1, z, by omega, by go_num, by rw [decide_eq_false (by omega)], rfl, hnew, rfl⟩
          case measure => simp [intOf]; omega
    · obtain rfl : k = bs.length := by omega
      have hmin2 := hmin.out HPOS.out
      have hz1 := HI1.out z hmin2.1
      obtain ⟨hzlo, hzhi⟩ := hz1
      have hzle : Hid (∀ i, 0 < cntI bs i → z ≤ i) := fun i hi => by
        by_cases c : i ∈ bs
        · obtain ⟨j, hj, rfl⟩ := List.getElem_of_mem c
          exact hmin2.2 j hj hj
        · rw [cntI_none c] at hi; omega
      have hzb : Hid (0 < cntI bs z) := cntI_mem hmin2.1
      have HFIN : Hid (∀ i0, 0 < G i0 → i0 < z → (∀ i, i < i0 → i < z → G i = 0) → i0 = m) := fun i0 h0 hz0 h1 => by
        rcases Int.lt_trichotomy i0 m with c | c | c
        · have h2 : G i0 + cntI bs i0 = 0 := HM.out.2 i0 c
          omega
        · exact c
        · have h2 : 0 < G m + cntI bs m := HM.out.1
          have h3 := h1 m c (by omega)
          have h4 := hzle.out m
          omega
      have HOUT : Hid ((∀ i, i < z → G i = 0) → z = m) := fun h1 => by
        rcases Int.lt_trichotomy z m with c | c | c
        · have h2 : G z + cntI bs z = 0 := HM.out.2 z c
          have := hzb.out
          omega
        · exact c
        · have h2 : 0 < G m + cntI bs m := HM.out.1
          have h3 := h1 m c
          have h4 := hzle.out m
          omega
      rw [decide_eq_false (show ¬ bs.length = 0 from by have := HPOS.out; omega)]
      clear hmin hmin2 hzle hzb hlt
      go_wp2
      go_loopw [8] (fun i w2 => MinP2 G mp n (fun i => i < z) wr w2 i) (fun i _ => (mp + (n : Int) - intOf i).toNat)
      case atStart => exact ⟨0, 0, Nat.zero_le _, by go_num, (fun i hi _ => HH.out.low (by omega)), rfl⟩
      case round =>
        obtain ⟨j, t, hj, rfl, hG, rfl⟩ := hrel
        obtain ⟨wt, hwt⟩ : ∃ wt, wt = wr.drewN t := ⟨_, rfl⟩
        have HHt : Hid (Paged tg G bs q mp n p (.slice (some ⟨gb, 0, none⟩) bs.length cb) pgs wt) := by show Paged tg _ _ _ _ _ _ _ _ _; rw [hwt]; exact HH.out.drewN t
        have HWT : Hid (∃ t, wt = wr.drewN t) := ⟨t, hwt⟩
        have HWTe := Lib.hid hwt
        rw [← hwt]
        clear hwt d0 d1 d2 d3 d4 d5
        obtain ⟨d0, d1, d2, d3, d4, d5⟩ := HHt.out.core.fields.cells
        rw [HP.out] at d2
        have H5 : ∀ t, Calls Tryz.prog 311 #[.pointer (some ⟨p, 0, none⟩), .int .i64 z] (wt.drewN t) fun e w' => e = .returned (.int .i64 (z / 32)) ∧ w' = wt.drewN t := fun t => (pageIndex_any p z (wt.drewN t) d4).mono fun _ _ h => ⟨h.1, h.2.symm⟩
        by_cases hlt : j < n
        · have q1 : decide (mp + (j : Int) < mp + (n : Int)) = true := by simp; omega
          have hbd : -330 ≤ mp ∧ mp + (n : Int) ≤ 330 := by have := HBD.out; omega
          by_cases hpz : mp + (j : Int) ≤ z / 32
          · have q2 : decide (mp + (j : Int) ≤ z / 32) = true := by simpa using hpz
            have i2 : IntKind.i64.wrap (mp + (j : Int) - mp) = (j : Int) := by rw [IntKind.wrap_i64]; omega
            have i3 : IntKind.i64.wrap (mp + (j : Int) + 1) = mp + (j : Int) + 1 := by rw [IntKind.wrap_i64]; omega
            have hltI : (j : Int) < (n : Int) := by omega
            obtain ⟨g, c0, hg2, hgc, hcell⟩ := HHt.out.rowAt (by omega)
            rw [HP.out] at hg2
            cases hg2
            have hc := hcell j hlt
            clear hcell
            go_wp2
            go_quiet ((go_at_call 311; (with_reducible exact Calls.quiet_of_same (H5 _))))
            obtain ⟨wu, hwu⟩ : ∃ wu, wu = wt.drewN nq := ⟨_, rfl⟩
            have HHu : Hid (Paged tg G bs q mp n p (.slice (some ⟨gb, 0, none⟩) bs.length cb) (.slice (some ⟨g, 0, none⟩) n cq) wu) := by show Paged tg _ _ _ _ _ _ _ _ _; rw [hwu, ← HP.out]; exact HHt.out.drewN nq
            have HWU : Hid (∃ t, wu = wr.drewN t) := by obtain ⟨t, ht⟩ := HWT.out; exact ⟨t + nq, by rw [hwu, ht, drewN2]⟩
            replace hc : wu.cell? ⟨g, j, none⟩ = some (pgV (q (mp + (j : Int)))) := by rw [hwu]; exact hc
            rw [← hwu]
            clear hwu d0 d1 d2 d3 d4 d5 HHt HWT H5 q1 q2
            obtain ⟨d0, d1, d2, d3, d4, d5⟩ := HHu.out.core.fields.cells
            go_wp2
            go_quiet (fail)
            obtain ⟨wv, hwv⟩ : ∃ wv, wv = wu.drewN nq := ⟨_, rfl⟩
            have HHv : Hid (Paged tg G bs q mp n p (.slice (some ⟨gb, 0, none⟩) bs.length cb) (.slice (some ⟨g, 0, none⟩) n cq) wv) := by show Paged tg _ _ _ _ _ _ _ _ _; rw [hwv]; exact HHu.out.drewN nq
            have HWV : Hid (∃ t, wv = wr.drewN t) := by obtain ⟨t, ht⟩ := HWU.out; exact ⟨t + nq, by rw [hwv, ht, drewN2]⟩
            rw [← hwv]
            clear hwv hc d0 d1 d2 d3 d4 d5 HHu HWU
            obtain ⟨d0, d1, d2, d3, d4, d5⟩ := HHv.out.core.fields.cells
            cases hq : q (mp + (j : Int)) with
            | none =>
              have hG2 : Hid (∀ i, i < 32 * (mp + ((j + 1 : Nat) : Int)) → (fun i => i < z) i → G i = 0) := fun i hi hl => by
                by_cases c : i < 32 * (mp + (j : Int))
                · exact hG.out i c hl
                · exact HHv.out.hole hq (by omega) (by omega)
              rw [show pgV none = Value.slice none 0 0 from rfl]
              clear hG hq
              go_wp2
              go_roundw
              case rel => obtain ⟨t, ht⟩ := HWV.out; exact ⟨j + 1, t, by omega, by go_num, hG2, ht⟩
              case measure => simp [intOf]; omega
            | some zz =>
              obtain ⟨b, cp⟩ := zz
              rw [show pgV (some (b, cp)) = Value.slice (some ⟨b, 0, none⟩) 32 cp from rfl]
              have HR := Lib.hid (HHv.out.core.page _ _ _ hq)
              clear hq
              have HPI := fun w h4 => pageIndex_any p z w h4
              by_cases hxz : mp + (j : Int) = z / 32
              · obtain ⟨E, hE⟩ : ∃ E : Nat, (E : Int) = z % 32 := ⟨(z % 32).toNat, by omega⟩
                have HE : Hid (E ≤ 32) := by show _ ≤ _; omega
                have HL1 : Hid (∀ k : Nat, k < E → 32 * (mp + (j : Int)) + (k : Int) < z) := fun k hk => by omega
                have HREST : Hid (∀ i, 32 * (mp + (j : Int)) ≤ i → i < 32 * (mp + ((j + 1 : Nat) : Int)) → i < z → i < 32 * (mp + (j : Int)) + ((E : Nat) : Int)) := fun i h1 h2 h3 => by omega
                have HLI := fun w h5 => lineIndex_any p z w h5
                rw [← hE] at HLI
                rw [← hxz] at HPI
                clear hE hxz
                go_wp2_with (first | (go_at_call 311; (with_reducible refine (HPI _ d4).mono ?_); rintro e w' ⟨rfl, rfl⟩) | (go_at_call 312; (with_reducible refine (HLI _ d5).mono ?_); rintro e w' ⟨rfl, rfl⟩))
                go_loopw [11] (fun i w3 => MinP3 G (mp + (j : Int)) E wv w3 i) (fun i _ => E - (intOf i).toNat)
                case atStart => exact ⟨0, by omega, rfl, (fun i h1 h2 => by omega), rfl⟩
                case round =>
                  obtain ⟨k, hk, rfl, hGk, rfl⟩ := hrel
                  by_cases hkE : k < E
                  · have hkI : (k : Int) < ((E : Nat) : Int) := by omega
                    have hkI32 : (k : Int) < 32 := by have := HE.out; omega
                    have i5 : IntKind.i64.wrap ((k : Int) + 1) = (k : Int) + 1 := by rw [IntKind.wrap_i64]; omega
                    have cl := HR.out.cell k (by omega)
                    have hgt := gt_zero (small_at HZ.out HS.out (32 * (mp + (j : Int)) + (k : Int)))
                    obtain ⟨y, hy⟩ : ∃ y, y = nf (G (32 * (mp + (j : Int)) + (k : Int))) := ⟨_, rfl⟩
                    rw [← hy] at cl hgt
                    clear hy
                    by_cases hpos : 0 < G (32 * (mp + (j : Int)) + (k : Int))
                    · rw [decide_eq_true hpos] at hgt
                      have hres : Hid (32 * (mp + (j : Int)) + (k : Int) = m) := HFIN.out _ hpos (HL1.out _ hkE) (fun i hi hl => by
                        by_cases c : i < 32 * (mp + (j : Int))
                        · exact hG.out i c hl
                        · exact hGk.out i (by omega) hi)
                      have HI := HX.out _ d4 k (by omega) (by omega) (mp + (j : Int)) (by omega) (by omega)
                      clear hGk hpos hG
                      go_wp2_with (go_at_call 316; (with_reducible refine HI.mono ?_); rintro e w' ⟨rfl, rfl⟩)
                      go_ret2
                      exact ⟨by rw [← hres.out]; rfl, HWV.out⟩
                    · rw [decide_eq_false hpos] at hgt
                      have hG3 : Hid (∀ i, 32 * (mp + (j : Int)) ≤ i → i < 32 * (mp + (j : Int)) + ((k + 1 : Nat) : Int) → G i = 0) := fun i h1 h2 => by
                        by_cases c : i < 32 * (mp + (j : Int)) + (k : Int)
                        · exact hGk.out i h1 c
                        · rw [show i = 32 * (mp + (j : Int)) + (k : Int) from by omega]; omega
                      clear hGk hpos
                      go_wp2
                      go_roundw
                      case rel => exact ⟨k + 1, by omega, by go_num, hG3, rfl⟩
                      case measure => simp [intOf]; omega
                  · obtain rfl : k = E := by omega
                    have hG2 : Hid (∀ i, i < 32 * (mp + ((j + 1 : Nat) : Int)) → (fun i => i < z) i → G i = 0) := fun i hi hl => by
                      by_cases c : i < 32 * (mp + (j : Int))
                      · exact hG.out i c hl
                      · exact hGk.out i (by omega) (by have := HREST.out i (by omega) hi hl; omega)
                    clear hkE hk hG hGk
                    go_wp2
                    go_roundw
                    case rel => obtain ⟨t, ht⟩ := HWV.out; exact ⟨j + 1, t, by omega, by go_num, hG2, ht⟩
                    case measure => simp [intOf]; omega
              · obtain ⟨E, hE⟩ : ∃ E : Nat, E = 32 := ⟨_, rfl⟩
                have HE : Hid (E ≤ 32) := by show _ ≤ _; omega
                have HL1 : Hid (∀ k : Nat, k < E → 32 * (mp + (j : Int)) + (k : Int) < z) := fun k hk => by omega
                have HREST : Hid (∀ i, 32 * (mp + (j : Int)) ≤ i → i < 32 * (mp + ((j + 1 : Nat) : Int)) → i < z → i < 32 * (mp + (j : Int)) + ((E : Nat) : Int)) := fun i h1 h2 h3 => by omega
                have HLI := fun w h5 => lineIndex_any p z w h5
                have h32 : IntKind.i64.wrap 32 = ((E : Nat) : Int) := by rw [IntKind.wrap_i64]; omega
                have z1 : decide (mp + (j : Int) = z / 32) = false := by simpa using hxz
                have z2 : (mp + (j : Int) == z / 32) = false := by simpa using hxz
                clear hE
                go_wp2_with (first | (go_at_call 311; (with_reducible refine (HPI _ d4).mono ?_); rintro e w' ⟨rfl, rfl⟩) | (go_at_call 312; (with_reducible refine (HLI _ d5).mono ?_); rintro e w' ⟨rfl, rfl⟩))
                go_loopw [11] (fun i w3 => MinP3 G (mp + (j : Int)) E wv w3 i) (fun i _ => E - (intOf i).toNat)
                case atStart => exact ⟨0, by omega, rfl, (fun i h1 h2 => by omega), rfl⟩
                case round =>
                  obtain ⟨k, hk, rfl, hGk, rfl⟩ := hrel
                  by_cases hkE : k < E
                  · have hkI : (k : Int) < ((E : Nat) : Int) := by omega
                    have hkI32 : (k : Int) < 32 := by have := HE.out; omega
                    have i5 : IntKind.i64.wrap ((k : Int) + 1) = (k : Int) + 1 := by rw [IntKind.wrap_i64]; omega
                    have cl := HR.out.cell k (by omega)
                    have hgt := gt_zero (small_at HZ.out HS.out (32 * (mp + (j : Int)) + (k : Int)))
                    obtain ⟨y, hy⟩ : ∃ y, y = nf (G (32 * (mp + (j : Int)) + (k : Int))) := ⟨_, rfl⟩
                    rw [← hy] at cl hgt
                    clear hy
                    by_cases hpos : 0 < G (32 * (mp + (j : Int)) + (k : Int))
                    · rw [decide_eq_true hpos] at hgt
                      have hres : Hid (32 * (mp + (j : Int)) + (k : Int) = m) := HFIN.out _ hpos (HL1.out _ hkE) (fun i hi hl => by
                        by_cases c : i < 32 * (mp + (j : Int))
                        · exact hG.out i c hl
                        · exact hGk.out i (by omega) hi)
                      have HI := HX.out _ d4 k (by omega) (by omega) (mp + (j : Int)) (by omega) (by omega)
                      clear hGk hpos hG
                      go_wp2_with (go_at_call 316; (with_reducible refine HI.mono ?_); rintro e w' ⟨rfl, rfl⟩)
                      go_ret2
                      exact ⟨by rw [← hres.out]; rfl, HWV.out⟩
                    · rw [decide_eq_false hpos] at hgt
                      have hG3 : Hid (∀ i, 32 * (mp + (j : Int)) ≤ i → i < 32 * (mp + (j : Int)) + ((k + 1 : Nat) : Int) → G i = 0) := fun i h1 h2 => by
                        by_cases c : i < 32 * (mp + (j : Int)) + (k : Int)
                        · exact hGk.out i h1 c
                        · rw [show i = 32 * (mp + (j : Int)) + (k : Int) from by omega]; omega
                      clear hGk hpos
                      go_wp2
                      go_roundw
                      case rel => exact ⟨k + 1, by omega, by go_num, hG3, rfl⟩
                      case measure => simp [intOf]; omega
                  · obtain rfl : k = E := by omega
                    have hG2 : Hid (∀ i, i < 32 * (mp + ((j + 1 : Nat) : Int)) → (fun i => i < z) i → G i = 0) := fun i hi hl => by
                      by_cases c : i < 32 * (mp + (j : Int))
                      · exact hG.out i c hl
                      · exact hGk.out i (by omega) (by have := HREST.out i (by omega) hi hl; omega)
                    clear hkE hk hG hGk
                    go_wp2
                    go_roundw
                    case rel => obtain ⟨t, ht⟩ := HWV.out; exact ⟨j + 1, t, by omega, by go_num, hG2, ht⟩
                    case measure => simp [intOf]; omega
          · have q2 : decide (mp + (j : Int) ≤ z / 32) = false := by simpa using hpz
            have hres : Hid (z = m) := HOUT.out (fun i hi => hG.out i (by omega) hi)
            go_wp2
            go_quiet ((go_at_call 311; (with_reducible exact Calls.quiet_of_same (H5 _))))
            go_wp2
            go_ret2
            exact ⟨by rw [← hres.out]; rfl, by obtain ⟨t, ht⟩ := HWT.out; exact ⟨t + nq, by rw [ht, drewN2]⟩⟩
        · obtain rfl : j = n := by omega
          have q1 : decide (mp + (j : Int) < mp + (j : Int)) = false := by simp
          have hres : Hid (z = m) := HOUT.out (fun i hi => by
            by_cases c : i < 32 * (mp + (j : Int))
            · exact hG.out i c hi
            · exact HH.out.high (by omega))
          go_wp2
          go_quiet (fail)
          go_wp2
          go_ret2
          exact ⟨by rw [← hres.out]; rfl, by obtain ⟨t, ht⟩ := HWT.out; exact ⟨t + nq, by rw [ht, drewN2]⟩⟩
end Go.Proofs.YtnmbjalojgccmaaGreat
end
/-
  The store with pages: MaxIndex. (Printed by gen_page13.py.)
-/
section
namespace Go.Proofs.YtnmbjalojgccmaaGreat
open Go.RowKit
variable {tg : Int}

/-- The greatest so far of a list. -/
def MaxP1 (bs : List Int) (w wr : World) (e z i : Value) : Prop :=
  ∃ (k : Nat) (m : Int), k ≤ bs.length ∧ i = .int .i64 (k : Int) ∧ e = .bool (decide (k = 0)) ∧ z = .int .i64 m ∧ Hid (0 < k → m ∈ bs ∧ ∀ j, (hj : j < bs.length) → j < k → bs[j] ≤ m) ∧ wr = w

def MaxP2 (G : Int → Nat) (mp : Int) (n : Nat) (lim : Int → Prop) (w wr : World) (i : Value) : Prop :=
  ∃ (j t : Nat), j ≤ n ∧ i = .int .i64 (mp + (j : Int) - 1) ∧ Hid (∀ i, 32 * (mp + j) ≤ i → lim i → G i = 0) ∧ wr = w.drewN t
def MaxP3 (G : Int → Nat) (x : Int) (e : Nat) (w wr : World) (i : Value) : Prop :=
  ∃ k : Nat, e ≤ k ∧ k ≤ 32 ∧ i = .int .i64 ((k : Int) - 1) ∧ Hid (∀ i, 32 * x + k ≤ i → i < 32 * (x + 1) → G i = 0) ∧ wr = w

set_option maxRecDepth 100000 in
set_option maxHeartbeats 1000000 in
theorem maxPE_any (G : Int → Nat) (q : Int → Option (Nat × Nat)) (mp : Int) (n p : Nat) (bufv pgs : Value) (m : Int) (w : World) (h : Paged tg G [] q mp n p bufv pgs w) (hz : ∀ i, i < -10000 ∨ 10000 < i → G i = 0) (hs : tot2 G < 9007199254740992)
   (hm1 : 0 < G m) (hm2 : ∀ i, m < i → G i = 0) :
    Calls Tryz.prog 306 #[.pointer (some ⟨p, 0, none⟩)] w fun e w' => e = .returned (.tuple #[.int .i64 m, .nilIface]) ∧ ∃ t, w' = w.drewN t := by
  obtain ⟨ao, n1, cb, rfl⟩ := owns_slice h.core.buf
  obtain rfl := owns_len h.core.buf
  obtain ⟨d0, d1, d2, d3, d4, d5⟩ := h.core.fields.cells
  have hn : 0 < n := by
    rcases Nat.eq_zero_or_pos n with c | c
    · have := h.zeroAt (i := m) (h.outside (by omega)); omega
    · exact c
  have hbd : -330 ≤ mp ∧ mp + (n : Int) ≤ 330 := by rcases h.bd with ⟨h1, _, _⟩ | ⟨_, h2, h3⟩ <;> omega
  obtain ⟨g, c0, rfl, hgc, hcell⟩ := h.rowAt hn
  have i1 : IntKind.i64.wrap (mp + (n : Int)) = mp + (n : Int) := by rw [IntKind.wrap_i64]; omega
  have HIX := fun (w : World) h4 (k : Nat) (h1 : (0 : Int) ≤ (k : Int)) h2 x hx1 hx2 => index_any p x (k : Int) w h4 hx1 hx2 h1 h2
  have HFIN : Hid (∀ i0, 0 < G i0 → True → (∀ i, i0 < i → True → G i = 0) → i0 = m) := fun i0 h0 _ h1 => by
    rcases Int.lt_trichotomy i0 m with c | c | c
    · have := h1 m c trivial; omega
    · exact c
    · have := hm2 i0 c; omega
  have HM1 : Hid (32 * mp ≤ m ∧ 0 < G m) := by
    refine ⟨?_, hm1⟩
    rcases Int.lt_or_le m (32 * mp) with c | c
    · have := h.low c; omega
    · exact c
  have i9 : IntKind.i64.wrap (mp + (n : Int) - 1) = mp + (n : Int) - 1 := by rw [IntKind.wrap_i64]; omega
  have HH := Lib.hid h
  have HC := Lib.hid hcell
  have HZ := Lib.hid hz
  have HS := Lib.hid hs
  have HX := Lib.hid HIX
  have HE : Hid ((0 : Nat) ≤ 32) := by show _ ≤ _; omega
  clear h hz hs hm1 hm2 HIX hcell
  go_enter Tryz.func306, Tryz.ntmps306
  go_wp2
  go_loopw [4, 5, 17] (fun e z i wr => e = .bool true ∧ z = .int .i64 0 ∧ i = .int .i64 0 ∧ wr = w) (fun _ _ _ _ => 0)
  case atStart => exact ⟨rfl, rfl, rfl, rfl⟩
  case round =>
    obtain ⟨rfl, rfl, rfl, rfl⟩ := hrel
    go_wp2
    go_quiet (fail)
    obtain ⟨n0, hn0⟩ : ∃ n0, n0 = nq := ⟨_, rfl⟩
    clear hn0
    go_wp2
    go_loopw [8] (fun i w2 => MaxP2 G mp n (fun _ => True) wr w2 i) (fun i _ => (intOf i - mp + 1).toNat)
    case atStart => exact ⟨n, nq, Nat.le_refl _, by go_num, (fun i hi _ => HH.out.high hi), rfl⟩
    case round =>
      obtain ⟨j0, t, hj, rfl, hG, rfl⟩ := hrel
      by_cases hlt0 : 0 < j0
      · obtain ⟨j, rfl⟩ : ∃ j, j0 = j + 1 := ⟨j0 - 1, by omega⟩
        have hlt : j < n := by omega
        have e0 : mp + ((j + 1 : Nat) : Int) - 1 = mp + (j : Int) := by omega
        rw [e0]
        have q1 : mp ≤ mp + (j : Int) := by omega
        have i2 : IntKind.i64.wrap (mp + (j : Int) - mp) = (j : Int) := by rw [IntKind.wrap_i64]; omega
        have i3 : IntKind.i64.wrap (mp + (j : Int) - 1) = mp + (j : Int) - 1 := by rw [IntKind.wrap_i64]; omega
        have i4 : IntKind.i64.wrap (32 - 1) = 31 := by rw [IntKind.wrap_i64]; omega
        have hltI : (j : Int) < (n : Int) := by omega
        have hc := HC.out j hlt
        obtain ⟨wu, hwu⟩ : ∃ wu, wu = wr.drewN t := ⟨_, rfl⟩
        have HHu : Hid (Paged tg G [] q mp n p (.slice ao 0 cb) (.slice (some ⟨g, 0, none⟩) n c0) wu) := by show Paged tg _ _ _ _ _ _ _ _ _; rw [hwu]; exact HH.out.drewN t
        have HWU : Hid (∃ t, wu = wr.drewN t) := ⟨t, hwu⟩
        replace hc : wu.cell? ⟨g, j, none⟩ = some (pgV (q (mp + (j : Int)))) := by rw [hwu]; exact hc
        rw [← hwu]
        clear hwu d0 d1 d2 d3 d4 d5 e0
        obtain ⟨d0, d1, d2, d3, d4, d5⟩ := HHu.out.core.fields.cells
        go_wp2
        go_quiet (fail)
        obtain ⟨wv, hwv⟩ : ∃ wv, wv = wu.drewN nq := ⟨_, rfl⟩
        have HHv : Hid (Paged tg G [] q mp n p (.slice ao 0 cb) (.slice (some ⟨g, 0, none⟩) n c0) wv) := by show Paged tg _ _ _ _ _ _ _ _ _; rw [hwv]; exact HHu.out.drewN nq
        have HWV : Hid (∃ t, wv = wr.drewN t) := by obtain ⟨t, ht⟩ := HWU.out; exact ⟨t + nq, by rw [hwv, ht, drewN2]⟩
        rw [← hwv]
        clear hwv hc d0 d1 d2 d3 d4 d5 HHu HWU
        obtain ⟨d0, d1, d2, d3, d4, d5⟩ := HHv.out.core.fields.cells
        cases hq : q (mp + (j : Int)) with
        | none =>
          have hG2 : Hid (∀ i, 32 * (mp + (j : Int)) ≤ i → (fun _ => True) i → G i = 0) := fun i hi hl => by
            by_cases c : 32 * (mp + ((j + 1 : Nat) : Int)) ≤ i
            · exact hG.out i c hl
            · exact HHv.out.hole hq (by omega) (by omega)
          rw [show pgV none = Value.slice none 0 0 from rfl]
          clear hG hq
          go_wp2
          go_roundw
          case rel => obtain ⟨t, ht⟩ := HWV.out; exact ⟨j, t, by omega, by go_num, hG2, ht⟩
          case measure => simp [intOf] <;> omega
        | some zz =>
          obtain ⟨b, cp⟩ := zz
          rw [show pgV (some (b, cp)) = Value.slice (some ⟨b, 0, none⟩) 32 cp from rfl]
          have HR := Lib.hid (HHv.out.core.page _ _ _ hq)
          clear hq
          have HREST : Hid (∀ i, 32 * (mp + (j : Int)) ≤ i → i < 32 * (mp + ((j + 1 : Nat) : Int)) → True → 32 * (mp + (j : Int)) + ((0 : Nat) : Int) ≤ i) := fun i h1 h2 _ => by have := HE.out; omega
          go_wp2
          go_loopw [11] (fun i w3 => MaxP3 G (mp + (j : Int)) 0 wv w3 i) (fun i _ => (intOf i + 1).toNat)
          case atStart => exact ⟨32, HE.out, Nat.le_refl _, by go_num, (fun i h1 h2 => by omega), rfl⟩
          case round =>
            obtain ⟨k0, hk, hk32, rfl, hGk, rfl⟩ := hrel
            by_cases hkE : 0 < k0
            · obtain ⟨k, rfl⟩ : ∃ k, k0 = k + 1 := ⟨k0 - 1, by omega⟩
              have e0 : (((k + 1 : Nat) : Int) - 1) = (k : Int) := by omega
              rw [e0]
              have hkI : ((0 : Nat) : Int) ≤ (k : Int) := by omega
              have hkI32 : (k : Int) < 32 := by omega
              have i5 : IntKind.i64.wrap ((k : Int) - 1) = (k : Int) - 1 := by rw [IntKind.wrap_i64]; omega
              have cl := HR.out.cell k (by omega)
              have hgt := gt_zero (small_at HZ.out HS.out (32 * (mp + (j : Int)) + (k : Int)))
              obtain ⟨y, hy⟩ : ∃ y, y = nf (G (32 * (mp + (j : Int)) + (k : Int))) := ⟨_, rfl⟩
              rw [← hy] at cl hgt
              clear hy e0
              by_cases hpos : 0 < G (32 * (mp + (j : Int)) + (k : Int))
              · rw [decide_eq_true hpos] at hgt
                have hres : Hid (32 * (mp + (j : Int)) + (k : Int) = m) := HFIN.out _ hpos trivial (fun i hi hl => by
                  by_cases c : 32 * (mp + ((j + 1 : Nat) : Int)) ≤ i
                  · exact hG.out i c hl
                  · exact hGk.out i (by omega) (by omega))
                have HI := HX.out _ d4 k (by omega) (by omega) (mp + (j : Int)) (by omega) (by omega)
                clear hGk hpos hG
                go_wp2_with (go_at_call 316; (with_reducible refine HI.mono ?_); rintro e w' ⟨rfl, rfl⟩)
                go_ret2
                exact ⟨by rw [← hres.out]; rfl, HWV.out⟩
              · rw [decide_eq_false hpos] at hgt
                have hG3 : Hid (∀ i, 32 * (mp + (j : Int)) + (k : Int) ≤ i → i < 32 * (mp + (j : Int) + 1) → G i = 0) := fun i h1 h2 => by
                  by_cases c : 32 * (mp + (j : Int)) + ((k + 1 : Nat) : Int) ≤ i
                  · exact hGk.out i c h2
                  · rw [show i = 32 * (mp + (j : Int)) + (k : Int) from by omega]; omega
                clear hGk hpos
                go_wp2
                go_roundw
                case rel => exact ⟨k, by omega, by omega, by go_num, hG3, rfl⟩
                case measure => simp [intOf] <;> omega
            · obtain rfl : k0 = 0 := by omega
              have hG2 : Hid (∀ i, 32 * (mp + (j : Int)) ≤ i → (fun _ => True) i → G i = 0) := fun i hi hl => by
                by_cases c : 32 * (mp + ((j + 1 : Nat) : Int)) ≤ i
                · exact hG.out i c hl
                · exact hGk.out i (by have := HREST.out i hi (by omega) hl; omega) (by omega)
              clear hkE hk hG hGk
              go_wp2
              go_roundw
              case rel => obtain ⟨t, ht⟩ := HWV.out; exact ⟨j, t, by omega, by go_num, hG2, ht⟩
              case measure => simp [intOf] <;> omega
      · exfalso
        obtain rfl : j0 = 0 := by omega
        have h1 := hG.out m (by have := HM1.out.1; omega) trivial
        have := HM1.out.2; omega
end Go.Proofs.YtnmbjalojgccmaaGreat
end
/-
  The store with pages: MaxIndex. (Printed by gen_page13.py.)
-/
section
namespace Go.Proofs.YtnmbjalojgccmaaGreat
open Go.RowKit
variable {tg : Int}

set_option maxRecDepth 100000 in
set_option maxHeartbeats 1000000 in
theorem maxPN_any (G : Int → Nat) (bs : List Int) (q : Int → Option (Nat × Nat)) (mp : Int) (n p : Nat) (bufv pgs : Value) (m : Int) (w : World) (h : Paged tg G bs q mp n p bufv pgs w) (h0 : 0 < bs.length) (hz : ∀ i, i < -10000 ∨ 10000 < i → G i = 0) (hs : tot2 G < 9007199254740992)
   (hm1 : 0 < both G bs m) (hm2 : ∀ i, m < i → both G bs i = 0) (hI : InI bs) (hbl : bs.length < 1000000000) :
    Calls Tryz.prog 306 #[.pointer (some ⟨p, 0, none⟩)] w fun e w' => e = .returned (.tuple #[.int .i64 m, .nilIface]) ∧ ∃ t, w' = w.drewN t := by
  obtain ⟨ao, n1, cb, rfl⟩ := owns_slice h.core.buf
  obtain rfl := owns_len h.core.buf
  obtain ⟨gb, rfl, hbc⟩ := cellsI h.core.buf h0
  obtain ⟨aq, n2, cq, hpgs⟩ := owns_slice h.core.row
  have hnq : n2 = n := by have h2 := h.core.row; rw [hpgs] at h2; exact owns_len h2
  subst hnq
  obtain ⟨n, hn2⟩ : ∃ n, n = n2 := ⟨_, rfl⟩
  subst hn2
  obtain ⟨d0, d1, d2, d3, d4, d5⟩ := h.core.fields.cells
  rw [hpgs] at d2
  have i1 : IntKind.i64.wrap (mp + (n : Int)) = mp + (n : Int) := by rw [IntKind.wrap_i64]; rcases h.bd with ⟨h1, h2, _⟩ | ⟨_, h2, h3⟩ <;> omega
  have HIX := fun (w : World) h4 (k : Nat) (h1 : (0 : Int) ≤ (k : Int)) h2 x hx1 hx2 => index_any p x (k : Int) w h4 hx1 hx2 h1 h2
  have HBD : Hid ((n = 0 ∧ mp = 9223372036854775807) ∨ (0 < n ∧ -330 ≤ mp ∧ mp + (n : Int) ≤ 330)) := by rcases h.bd with ⟨h1, h2, _⟩ | h2; exact .inl ⟨h1, h2⟩; exact .inr h2
  have HM : Hid (0 < both G bs m ∧ ∀ i, m < i → both G bs i = 0) := ⟨hm1, hm2⟩
  have HH := Lib.hid h
  have HBC : Hid (∀ k, (hk : k < bs.length) → w.cell? ⟨gb, k, none⟩ = some (.int .i64 bs[k])) := hbc
  have HZ := Lib.hid hz
  have HS := Lib.hid hs
  have HX := Lib.hid HIX
  have HP := Lib.hid hpgs
  have HI1 := Lib.hid hI
  have HPOS := Lib.hid h0
  clear h hz hs hm1 hm2 HIX hbc hpgs hI h0
  go_enter Tryz.func306, Tryz.ntmps306
  go_wp2
  go_loopw [4, 5, 17] (fun e z i wr => MaxP1 bs w wr e z i) (fun _ _ i _ => bs.length - (intOf i).toNat)
  case atStart => exact ⟨0, 0, Nat.zero_le _, rfl, rfl, rfl, fun h => by omega, rfl⟩
  case round =>
    obtain ⟨k, z, hk, rfl, rfl, rfl, hmin, rfl⟩ := hrel
    by_cases hlt : k < bs.length
    · have hltI : (k : Int) < ((bs.length : Nat) : Int) := by omega
      have c0 := HBC.out k hlt
      have i2 : IntKind.i64.wrap ((k : Int) + 1) = (k : Int) + 1 := by rw [IntKind.wrap_i64]; omega
      by_cases hk0 : k = 0
      · subst hk0
        have hnew : Hid (0 < 0 + 1 → bs[0] ∈ bs ∧ ∀ j, (hj : j < bs.length) → j < 0 + 1 → bs[j] ≤ bs[0]) := fun _ => ⟨List.getElem_mem hlt, fun j hj hj1 => by obtain rfl : j = 0 := (by omega); exact Int.le_refl _⟩
        obtain ⟨x, hx⟩ : ∃ x, x = bs[0] := ⟨_, rfl⟩
        rw [← hx] at c0 hnew
        clear hx hmin
        rw [decide_eq_true (rfl : (0 : Nat) = 0)]
        go_wp2
        go_roundw
        case rel => exact ⟨1, x, by omega, by go_num, rfl, rfl, hnew, rfl⟩
        case measure => simp [intOf] <;> omega
      · rw [decide_eq_false hk0]
        by_cases hle : z < bs[k]
        · have hnew : Hid (0 < k + 1 → bs[k] ∈ bs ∧ ∀ j, (hj : j < bs.length) → j < k + 1 → bs[j] ≤ bs[k]) := fun _ => ⟨List.getElem_mem hlt, fun j hj hj1 => by
            by_cases c : j = k
            · subst c; exact Int.le_refl _
            · have := (hmin.out (by omega)).2 j hj (by omega); omega⟩
          obtain ⟨x, hx⟩ : ∃ x, x = bs[k] := ⟨_, rfl⟩
          rw [← hx] at c0 hnew hle
          clear hx hmin
          go_wp2
          go_roundw
          case rel => exact ⟨k + 1, x, by omega, by go_num, by rw [decide_eq_false (by omega)], rfl, hnew, rfl⟩
          case measure => simp [intOf] <;> omega
        · have hnew : Hid (0 < k + 1 → z ∈ bs ∧ ∀ j, (hj : j < bs.length) → j < k + 1 → bs[j] ≤ z) := fun _ => ⟨(hmin.out (by omega)).1, fun j hj hj1 => by
            by_cases c : j = k
            · subst c; omega
            · exact (hmin.out (by omega)).2 j hj (by omega)⟩
          obtain ⟨x, hx⟩ : ∃ x, x = bs[k] := ⟨_, rfl⟩
          rw [← hx] at c0 hle
          clear hx hmin
          go_wp2
          go_roundw
          case rel => exact ⟨k + 1, z, by omega, by go_num, by rw [decide_eq_false (by omega)], rfl, hnew, rfl⟩
          case measure => simp [intOf] <;> omega
    · obtain rfl : k = bs.length := by omega
      have hmin2 := hmin.out HPOS.out
      have hz1 := HI1.out z hmin2.1
      obtain ⟨hzlo, hzhi⟩ := hz1
      have hzle : Hid (∀ i, 0 < cntI bs i → i ≤ z) := fun i hi => by
        by_cases c : i ∈ bs
        · obtain ⟨j, hj, rfl⟩ := List.getElem_of_mem c
          exact hmin2.2 j hj hj
        · rw [cntI_none c] at hi; omega
      have hzb : Hid (0 < cntI bs z) := cntI_mem hmin2.1
      have HFIN : Hid (∀ i0, 0 < G i0 → z ≤ i0 → (∀ i, i0 < i → z ≤ i → G i = 0) → i0 = m) := fun i0 h0 hz0 h1 => by
        rcases Int.lt_trichotomy i0 m with c | c | c
        · have h2 : 0 < G m + cntI bs m := HM.out.1
          have h3 := h1 m c (by omega)
          have h4 := hzle.out m
          omega
        · exact c
        · have h2 : G i0 + cntI bs i0 = 0 := HM.out.2 i0 c
          omega
      have HOUT : Hid ((∀ i, z ≤ i → G i = 0) → z = m) := fun h1 => by
        rcases Int.lt_trichotomy z m with c | c | c
        · have h2 : 0 < G m + cntI bs m := HM.out.1
          have h3 := h1 m (by omega)
          have h4 := hzle.out m
          omega
        · exact c
        · have h2 : G z + cntI bs z = 0 := HM.out.2 z c
          have := hzb.out
          omega
      rw [decide_eq_false (show ¬ bs.length = 0 from by have := HPOS.out; omega)]
      clear hmin hmin2 hzle hzb hlt
      have i9 : IntKind.i64.wrap (mp + (n : Int) - 1) = mp + (n : Int) - 1 := by rw [IntKind.wrap_i64]; have := HBD.out; omega
      go_wp2
      go_quiet (fail)
      go_wp2
      go_loopw [8] (fun i w2 => MaxP2 G mp n (fun i => z ≤ i) wr w2 i) (fun i _ => (intOf i - mp + 1).toNat)
      case atStart => exact ⟨n, nq, Nat.le_refl _, by go_num, (fun i hi _ => HH.out.high hi), rfl⟩
      case round =>
        obtain ⟨j0, t, hj, rfl, hG, rfl⟩ := hrel
        obtain ⟨wu, hwu⟩ : ∃ wu, wu = wr.drewN t := ⟨_, rfl⟩
        have HHt : Hid (Paged tg G bs q mp n p (.slice (some ⟨gb, 0, none⟩) bs.length cb) pgs wu) := by show Paged tg _ _ _ _ _ _ _ _ _; rw [hwu]; exact HH.out.drewN t
        have HWU : Hid (∃ t, wu = wr.drewN t) := ⟨t, hwu⟩
        rw [← hwu]
        clear hwu d0 d1 d2 d3 d4 d5
        obtain ⟨d0, d1, d2, d3, d4, d5⟩ := HHt.out.core.fields.cells
        rw [HP.out] at d2
        have HPI := fun w h4 => pageIndex_any p z w h4
        by_cases hlt0 : 0 < j0
        · obtain ⟨j, rfl⟩ : ∃ j, j0 = j + 1 := ⟨j0 - 1, by omega⟩
          have hlt : j < n := by omega
          have e0 : mp + ((j + 1 : Nat) : Int) - 1 = mp + (j : Int) := by omega
          rw [e0]
          clear e0
          have q1 : mp ≤ mp + (j : Int) := by omega
          have hbd : -330 ≤ mp ∧ mp + (n : Int) ≤ 330 := by have := HBD.out; omega
          by_cases hpz : z / 32 ≤ mp + (j : Int)
          · have i2 : IntKind.i64.wrap (mp + (j : Int) - mp) = (j : Int) := by rw [IntKind.wrap_i64]; omega
            have i3 : IntKind.i64.wrap (mp + (j : Int) - 1) = mp + (j : Int) - 1 := by rw [IntKind.wrap_i64]; omega
            have i4 : IntKind.i64.wrap (32 - 1) = 31 := by rw [IntKind.wrap_i64]; omega
            have hltI : (j : Int) < (n : Int) := by omega
            obtain ⟨g, c0, hg2, hgc, hcell⟩ := HHt.out.rowAt (by omega)
            rw [HP.out] at hg2
            cases hg2
            have hc := hcell j hlt
            have HHu : Hid (Paged tg G bs q mp n p (.slice (some ⟨gb, 0, none⟩) bs.length cb) (.slice (some ⟨g, 0, none⟩) n cq) wu) := by show Paged tg _ _ _ _ _ _ _ _ _; rw [← HP.out]; exact HHt.out
            clear hcell HHt
            go_wp2_with (go_at_call 311; (with_reducible refine (HPI _ d4).mono ?_); rintro e w' ⟨rfl, rfl⟩)
            clear HPI
            go_wp2
            go_quiet (fail)
            obtain ⟨wv, hwv⟩ : ∃ wv, wv = wu.drewN nq := ⟨_, rfl⟩
            have HHv : Hid (Paged tg G bs q mp n p (.slice (some ⟨gb, 0, none⟩) bs.length cb) (.slice (some ⟨g, 0, none⟩) n cq) wv) := by show Paged tg _ _ _ _ _ _ _ _ _; rw [hwv]; exact HHu.out.drewN nq
            have HWV : Hid (∃ t, wv = wr.drewN t) := by obtain ⟨t, ht⟩ := HWU.out; exact ⟨t + nq, by rw [hwv, ht, drewN2]⟩
            rw [← hwv]
            clear hwv hc d0 d1 d2 d3 d4 d5 HHu HWU
            obtain ⟨d0, d1, d2, d3, d4, d5⟩ := HHv.out.core.fields.cells
            cases hq : q (mp + (j : Int)) with
            | none =>
              have hG2 : Hid (∀ i, 32 * (mp + (j : Int)) ≤ i → (fun i => z ≤ i) i → G i = 0) := fun i hi hl => by
                by_cases c : 32 * (mp + ((j + 1 : Nat) : Int)) ≤ i
                · exact hG.out i c hl
                · exact HHv.out.hole hq (by omega) (by omega)
              rw [show pgV none = Value.slice none 0 0 from rfl]
              clear hG hq
              go_wp2
              go_roundw
              case rel => obtain ⟨t, ht⟩ := HWV.out; exact ⟨j, t, by omega, by go_num, hG2, ht⟩
              case measure => simp [intOf] <;> omega
            | some zz =>
              obtain ⟨b, cp⟩ := zz
              rw [show pgV (some (b, cp)) = Value.slice (some ⟨b, 0, none⟩) 32 cp from rfl]
              have HR := Lib.hid (HHv.out.core.page _ _ _ hq)
              clear hq
              have HPI := fun w h4 => pageIndex_any p z w h4
              by_cases hxz : mp + (j : Int) = z / 32
              · obtain ⟨E, hE⟩ : ∃ E : Nat, (E : Int) = z % 32 := ⟨(z % 32).toNat, by omega⟩
                have HE : Hid (E ≤ 32) := by show _ ≤ _; omega
                have HL1 : Hid (∀ k : Nat, E ≤ k → k < 32 → z ≤ 32 * (mp + (j : Int)) + (k : Int)) := fun k hk hk2 => by omega
                have HREST : Hid (∀ i, 32 * (mp + (j : Int)) ≤ i → i < 32 * (mp + ((j + 1 : Nat) : Int)) → z ≤ i → 32 * (mp + (j : Int)) + ((E : Nat) : Int) ≤ i) := fun i h1 h2 h3 => by omega
                have HLI := fun w h5 => lineIndex_any p z w h5
                rw [← hE] at HLI
                rw [← hxz] at HPI
                clear hE hxz
                go_wp2_with (first | (go_at_call 311; (with_reducible refine (HPI _ d4).mono ?_); rintro e w' ⟨rfl, rfl⟩) | (go_at_call 312; (with_reducible refine (HLI _ d5).mono ?_); rintro e w' ⟨rfl, rfl⟩))
                go_loopw [11] (fun i w3 => MaxP3 G (mp + (j : Int)) E wv w3 i) (fun i _ => (intOf i + 1).toNat)
                case atStart => exact ⟨32, HE.out, Nat.le_refl _, by go_num, (fun i h1 h2 => by omega), rfl⟩
                case round =>
                  obtain ⟨k0, hk, hk32, rfl, hGk, rfl⟩ := hrel
                  by_cases hkE : E < k0
                  · obtain ⟨k, rfl⟩ : ∃ k, k0 = k + 1 := ⟨k0 - 1, by omega⟩
                    have e0 : (((k + 1 : Nat) : Int) - 1) = (k : Int) := by omega
                    rw [e0]
                    have hkI : ((E : Nat) : Int) ≤ (k : Int) := by omega
                    have hkI32 : (k : Int) < 32 := by omega
                    have i5 : IntKind.i64.wrap ((k : Int) - 1) = (k : Int) - 1 := by rw [IntKind.wrap_i64]; omega
                    have cl := HR.out.cell k (by omega)
                    have hgt := gt_zero (small_at HZ.out HS.out (32 * (mp + (j : Int)) + (k : Int)))
                    obtain ⟨y, hy⟩ : ∃ y, y = nf (G (32 * (mp + (j : Int)) + (k : Int))) := ⟨_, rfl⟩
                    rw [← hy] at cl hgt
                    clear hy e0
                    by_cases hpos : 0 < G (32 * (mp + (j : Int)) + (k : Int))
                    · rw [decide_eq_true hpos] at hgt
                      have hres : Hid (32 * (mp + (j : Int)) + (k : Int) = m) := HFIN.out _ hpos (HL1.out k (by omega) (by omega)) (fun i hi hl => by
                        by_cases c : 32 * (mp + ((j + 1 : Nat) : Int)) ≤ i
                        · exact hG.out i c hl
                        · exact hGk.out i (by omega) (by omega))
                      have HI := HX.out _ d4 k (by omega) (by omega) (mp + (j : Int)) (by omega) (by omega)
                      clear hGk hpos hG
                      go_wp2_with (go_at_call 316; (with_reducible refine HI.mono ?_); rintro e w' ⟨rfl, rfl⟩)
                      go_ret2
                      exact ⟨by rw [← hres.out]; rfl, HWV.out⟩
                    · rw [decide_eq_false hpos] at hgt
                      have hG3 : Hid (∀ i, 32 * (mp + (j : Int)) + (k : Int) ≤ i → i < 32 * (mp + (j : Int) + 1) → G i = 0) := fun i h1 h2 => by
                        by_cases c : 32 * (mp + (j : Int)) + ((k + 1 : Nat) : Int) ≤ i
                        · exact hGk.out i c h2
                        · rw [show i = 32 * (mp + (j : Int)) + (k : Int) from by omega]; omega
                      clear hGk hpos
                      go_wp2
                      go_roundw
                      case rel => exact ⟨k, by omega, by omega, by go_num, hG3, rfl⟩
                      case measure => simp [intOf] <;> omega
                  · obtain rfl : k0 = E := by omega
                    have hG2 : Hid (∀ i, 32 * (mp + (j : Int)) ≤ i → (fun i => z ≤ i) i → G i = 0) := fun i hi hl => by
                      by_cases c : 32 * (mp + ((j + 1 : Nat) : Int)) ≤ i
                      · exact hG.out i c hl
                      · exact hGk.out i (by have := HREST.out i hi (by omega) hl; omega) (by omega)
                    have hkf : ¬ ((k0 : Nat) : Int) ≤ (k0 : Int) - 1 := by omega
                    clear hkE hk hG hGk
                    go_wp2
                    go_roundw
                    case rel => obtain ⟨t, ht⟩ := HWV.out; exact ⟨j, t, by omega, by go_num, hG2, ht⟩
                    case measure => simp [intOf] <;> omega
              · have HE : Hid ((0 : Nat) ≤ 32) := by show _ ≤ _; omega
                have HL1 : Hid (∀ k : Nat, 0 ≤ k → k < 32 → z ≤ 32 * (mp + (j : Int)) + (k : Int)) := fun k hk hk2 => by omega
                have HREST : Hid (∀ i, 32 * (mp + (j : Int)) ≤ i → i < 32 * (mp + ((j + 1 : Nat) : Int)) → z ≤ i → 32 * (mp + (j : Int)) + ((0 : Nat) : Int) ≤ i) := fun i h1 h2 h3 => by omega
                have HLI := fun w h5 => lineIndex_any p z w h5
                have z1 : decide (mp + (j : Int) = z / 32) = false := by simpa using hxz
                have z2 : (mp + (j : Int) == z / 32) = false := by simpa using hxz
                go_wp2_with (first | (go_at_call 311; (with_reducible refine (HPI _ d4).mono ?_); rintro e w' ⟨rfl, rfl⟩) | (go_at_call 312; (with_reducible refine (HLI _ d5).mono ?_); rintro e w' ⟨rfl, rfl⟩))
                go_loopw [11] (fun i w3 => MaxP3 G (mp + (j : Int)) 0 wv w3 i) (fun i _ => (intOf i + 1).toNat)
                case atStart => exact ⟨32, HE.out, Nat.le_refl _, by go_num, (fun i h1 h2 => by omega), rfl⟩
                case round =>
                  obtain ⟨k0, hk, hk32, rfl, hGk, rfl⟩ := hrel
                  by_cases hkE : 0 < k0
                  · obtain ⟨k, rfl⟩ : ∃ k, k0 = k + 1 := ⟨k0 - 1, by omega⟩
                    have e0 : (((k + 1 : Nat) : Int) - 1) = (k : Int) := by omega
                    rw [e0]
                    have hkI : ((0 : Nat) : Int) ≤ (k : Int) := by omega
                    have hkI32 : (k : Int) < 32 := by omega
                    have i5 : IntKind.i64.wrap ((k : Int) - 1) = (k : Int) - 1 := by rw [IntKind.wrap_i64]; omega
                    have cl := HR.out.cell k (by omega)
                    have hgt := gt_zero (small_at HZ.out HS.out (32 * (mp + (j : Int)) + (k : Int)))
                    obtain ⟨y, hy⟩ : ∃ y, y = nf (G (32 * (mp + (j : Int)) + (k : Int))) := ⟨_, rfl⟩
                    rw [← hy] at cl hgt
                    clear hy e0
                    by_cases hpos : 0 < G (32 * (mp + (j : Int)) + (k : Int))
                    · rw [decide_eq_true hpos] at hgt
                      have hres : Hid (32 * (mp + (j : Int)) + (k : Int) = m) := HFIN.out _ hpos (HL1.out k (by omega) (by omega)) (fun i hi hl => by
                        by_cases c : 32 * (mp + ((j + 1 : Nat) : Int)) ≤ i
                        · exact hG.out i c hl
                        · exact hGk.out i (by omega) (by omega))
                      have HI := HX.out _ d4 k (by omega) (by omega) (mp + (j : Int)) (by omega) (by omega)
                      clear hGk hpos hG
                      go_wp2_with (go_at_call 316; (with_reducible refine HI.mono ?_); rintro e w' ⟨rfl, rfl⟩)
                      go_ret2
                      exact ⟨by rw [← hres.out]; rfl, HWV.out⟩
                    · rw [decide_eq_false hpos] at hgt
                      have hG3 : Hid (∀ i, 32 * (mp + (j : Int)) + (k : Int) ≤ i → i < 32 * (mp + (j : Int) + 1) → G i = 0) := fun i h1 h2 => by
                        by_cases c : 32 * (mp + (j : Int)) + ((k + 1 : Nat) : Int) ≤ i
                        · exact hGk.out i c h2
                        · rw [show i = 32 * (mp + (j : Int)) + (k : Int) from by omega]; omega
                      clear hGk hpos
                      go_wp2
                      go_roundw
                      case rel => exact ⟨k, by omega, by omega, by go_num, hG3, rfl⟩
                      case measure => simp [intOf] <;> omega
                  · obtain rfl : k0 = 0 := by omega
                    have hG2 : Hid (∀ i, 32 * (mp + (j : Int)) ≤ i → (fun i => z ≤ i) i → G i = 0) := fun i hi hl => by
                      by_cases c : 32 * (mp + ((j + 1 : Nat) : Int)) ≤ i
                      · exact hG.out i c hl
                      · exact hGk.out i (by have := HREST.out i hi (by omega) hl; omega) (by omega)
                    clear hkE hk hG hGk
                    go_wp2
                    go_roundw
                    case rel => obtain ⟨t, ht⟩ := HWV.out; exact ⟨j, t, by omega, by go_num, hG2, ht⟩
                    case measure => simp [intOf] <;> omega
          · have hres : Hid (z = m) := HOUT.out (fun i hi => hG.out i (by omega) hi)
            go_wp2_with (go_at_call 311; (with_reducible refine (HPI _ d4).mono ?_); rintro e w' ⟨rfl, rfl⟩)
            go_ret2
            exact ⟨by rw [← hres.out]; rfl, HWU.out⟩
        · obtain rfl : j0 = 0 := by omega
          have q1 : ¬ mp ≤ mp + ((0 : Nat) : Int) - 1 := by omega
          have hres : Hid (z = m) := HOUT.out (fun i hi => by
            by_cases c : 32 * (mp + ((0 : Nat) : Int)) ≤ i
            · exact hG.out i c hi
            · exact HH.out.low (by omega))
          go_wp2
          go_ret2
          exact ⟨by rw [← hres.out]; rfl, HWU.out⟩
end Go.Proofs.YtnmbjalojgccmaaGreat
end
