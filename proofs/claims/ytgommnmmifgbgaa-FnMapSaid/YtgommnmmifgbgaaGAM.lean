/-
  From the looks to all floats: what a mapping tells of a float lies within the accuracy, by spec.Near and by its bounds.
-/
import Derived.Test.YtgommnmmifgbgaaGAK
import Derived.Test.YtgommnmmifgbgaaGAL
import Derived.Test.YtgommnmmifgbgaaGAJ
section
namespace Go.Proofs.Ytgommnmmifgbgaa
open Go.RowKit
open Ieee
set_option exponentiation.threshold 5000
set_option maxRecDepth 20000

theorem rel_linZ (Z X n G : Nat) (h1 : 2*X ≤ 2*n+G) (h2 : 2*n ≤ 2*X+G) (h3 : G*Z ≤ n) : X * (2 * Z) ≤ n * (2 * Z + 1) ∧ n * (2 * Z) ≤ X * (2 * Z) + n := by
  have a := Nat.mul_le_mul_right Z h1
  have b := Nat.mul_le_mul_right Z h2
  rw [Nat.add_mul, Nat.mul_assoc, Nat.mul_assoc, Nat.mul_left_comm 2 X, Nat.mul_left_comm 2 n] at a b
  rw [Nat.mul_add, Nat.mul_one]
  constructor
  · omega
  · omega
theorem rel_lin (X n G : Nat) (h1 : 2*X ≤ 2*n+G) (h2 : 2*n ≤ 2*X+G) (h3 : G*4503599627370496 ≤ n) : X * 9007199254740992 ≤ n * 9007199254740993 ∧ n * 9007199254740991 ≤ X * 9007199254740992 := by
  obtain ⟨a, b⟩ := rel_linZ 4503599627370496 X n G h1 h2 h3
  refine ⟨a, ?_⟩
  have e : n * (2 * 4503599627370496) = n * 9007199254740991 + n := by rw [← Nat.mul_succ]
  rw [e] at b
  exact Nat.le_of_add_le_add_right b

/-- A rounded number is within 2^-53 of itself. -/
theorem rndT_rel (t n : Nat) (h : t = 0 ∨ 2 ^ (t + 52) ≤ n) : rndT t n * 2 ^ t * 9007199254740992 ≤ n * 9007199254740993 ∧ n * 9007199254740991 ≤ rndT t n * 2 ^ t * 9007199254740992 := by
  by_cases hs : n < 9007199254740992 ∧ t = 0
  · obtain ⟨h1, h2⟩ := hs
    subst h2
    have := rndT_exact n 0 h1
    rw [Nat.pow_zero, Nat.mul_one] at this
    rw [this, Nat.pow_zero, Nat.mul_one]
    constructor <;> omega
  · have hbig : 2 ^ (t + 52) ≤ n := by
      rcases h with h | h
      · subst h
        have : (2 : Nat) ^ (0 + 52) = 4503599627370496 := by decide
        rw [this]; omega
      · exact h
    have h0 : n ≠ 0 := by have := Nat.two_pow_pos (t + 52); omega
    have hl : t + 52 ≤ n.log2 := (Nat.le_log2 h0).2 hbig
    obtain ⟨k, hk⟩ : ∃ k, n.log2 = k + 52 := ⟨n.log2 - 52, by omega⟩
    have hlt : n < 2 ^ (k + 53) := (Nat.log2_lt h0).1 (by omega)
    have hge : 2 ^ (k + 52) ≤ n := (Nat.le_log2 h0).1 (by omega)
    have := rndT_near t n k hlt (by omega)
    have h52 : (2 : Nat) ^ 52 = 4503599627370496 := by decide
    rw [Nat.pow_add, h52] at hge
    exact rel_lin _ _ _ this.1 this.2 hge

theorem rndI_abs (t : Nat) (z : Int) : (rndI t z).natAbs = rndT t z.natAbs := by
  rcases Int.le_total 0 z with h | h
  · obtain ⟨n, rfl⟩ := Int.eq_ofNat_of_zero_le h
    rw [rndI_ofNat]; simp
  · obtain ⟨n, hn⟩ := Int.eq_ofNat_of_zero_le (show 0 ≤ -z by omega)
    have hz : z = -(n : Int) := by omega
    subst hz
    rw [rndI_neg]; simp

/-- A finite float: its sign and rung. -/
theorem fv_parts {x : Nat} {a : Int} (h : FV x a) : ∃ s : Bool, ∃ r : Nat, r < 9218868437227405312 ∧ x = (if s then 9223372036854775808 else 0) + r ∧ a = (if s then (-1 : Int) else 1) * ((rungV r : Nat) : Int) := by
  obtain ⟨hx, s, m, i, hr, hv⟩ := h
  obtain ⟨h1, h2⟩ := read_rungV hx hr
  refine ⟨s, x % 9223372036854775808, ?_, h2, ?_⟩
  · refine Nat.lt_of_not_le fun hc => ?_
    have e1 : double.signWeight = 9223372036854775808 := by decide
    have e2 : double.binade = 4503599627370496 := by decide
    have e3 : double.infRung = 9218868437227405312 := by decide
    unfold Format.read at hr
    rw [e1, e2, e3] at hr
    dsimp only at hr
    rw [if_neg (by omega), if_neg (by omega)] at hr
    split at hr <;> cases hr
  · rw [← hv, sv_signed, h1]

theorem rung_fv (s : Bool) {r : Nat} (h : r < 9218868437227405312) : FV ((if s then 9223372036854775808 else 0) + r) ((if s then (-1 : Int) else 1) * ((rungV r : Nat) : Int)) := by
  obtain ⟨x, hx⟩ : ∃ x, x = (if s then 9223372036854775808 else 0) + r := ⟨_, rfl⟩
  have hm : x % 9223372036854775808 = r := by cases s <;> simp at hx <;> omega
  have hl : x < 18446744073709551616 := by cases s <;> simp at hx <;> omega
  have hf : finB x = true := by
    unfold finB
    rw [Bool.and_eq_true]
    have e : Nat.mod x 9223372036854775808 = r := hm
    rw [e, Nat.blt_eq, Nat.blt_eq]
    exact ⟨h, hl⟩
  obtain ⟨t, ht, hxt⟩ := finB_fv hf
  rw [hm] at ht hxt
  rw [← hx]
  have : s = t := by
    cases s <;> cases t <;> simp at hx hxt <;> first | rfl | omega
  subst this
  exact ht

theorem xor_top {r : Nat} (h : r < 2 ^ 63) : r ^^^ 2 ^ 63 = 2 ^ 63 + r := by
  refine Nat.eq_of_testBit_eq fun i => ?_
  rw [Nat.testBit_xor, Nat.testBit_two_pow]
  rcases Nat.lt_trichotomy i 63 with hi | hi | hi
  · rw [Nat.testBit_two_pow_add_gt hi]
    have : (decide (63 = i)) = false := by simp; omega
    rw [this, Bool.xor_false]
  · subst hi
    rw [Nat.testBit_two_pow_add_eq]
    simp
  · have hp : 2 ^ 64 ≤ 2 ^ i := Nat.pow_le_pow_right (by omega) hi
    have h64 : (2 : Nat) ^ 64 = 2 ^ 63 + 2 ^ 63 := by decide
    rw [Nat.testBit_lt_two_pow (show r < 2 ^ i by omega), Nat.testBit_lt_two_pow (show 2 ^ 63 + r < 2 ^ i by omega)]
    have : (decide (63 = i)) = false := by simp; omega
    rw [this]; rfl

theorem negF_fv {x : Nat} {a : Int} (h : FV x a) : FV (negF x) (-a) := by
  obtain ⟨s, r, hr, hx, ha⟩ := fv_parts h
  have := rung_fv (!s) hr
  have h63 : (2 : Nat) ^ 63 = 9223372036854775808 := by decide
  have ht := xor_top (r := r) (by rw [h63]; omega)
  have e : negF x = (if (!s) then 9223372036854775808 else 0) + r := by
    show x ^^^ 2 ^ 63 = _
    cases s
    · simp at hx
      subst hx
      rw [ht, h63]; rfl
    · simp at hx
      rw [← h63, ← ht] at hx
      subst hx
      rw [Nat.xor_assoc, Nat.xor_self, Nat.xor_zero]; simp
  rw [e]
  have e2 : -a = (if (!s) then (-1 : Int) else 1) * ((rungV r : Nat) : Int) := by
    rw [ha]; cases s <;> simp
  rw [e2]
  exact this

/-- The size of a float. -/
theorem maxO_abs {x : Nat} {a : Int} (h : FV x a) : ∃ m, maxO x (negF x) = some m ∧ FV m (a.natAbs : Int) := by
  have hn := negF_fv h
  unfold maxO
  rw [order_fv h hn]
  rcases Int.lt_trichotomy a (-a) with hl | hl | hl
  · rw [Int.compare_eq_lt.2 hl]
    refine ⟨_, rfl, ?_⟩
    rw [show ((a.natAbs : Nat) : Int) = -a from by omega]; exact hn
  · rw [Int.compare_eq_eq.2 hl]
    refine ⟨_, rfl, ?_⟩
    rw [show ((a.natAbs : Nat) : Int) = a from by omega]
    split
    · rw [show a = -a from by omega]; exact hn
    · exact h
  · rw [Int.compare_eq_gt.2 hl]
    refine ⟨_, rfl, ?_⟩
    rw [show ((a.natAbs : Nat) : Int) = a from by omega]; exact h

theorem fv_rv {x : Nat} (h1 : 4503599627370496 ≤ x) (h2 : x < 9214364837600034816) : FV x ((rvN x : Nat) : Int) := by
  have := fv_pos h1 h2
  rwa [PV_false] at this

theorem rvN_rung {x : Nat} (h : 4503599627370496 ≤ x) : rvN x = rungV x := by
  unfold rvN rungV; rw [if_neg (by omega)]
theorem rvN_mono {x y : Nat} (h : 4503599627370496 ≤ x) (hxy : x ≤ y) : rvN x ≤ rvN y := by
  rw [rvN_rung h, rvN_rung (by omega)]
  rcases Nat.lt_or_eq_of_le hxy with h | h
  · exact Nat.le_of_lt (rungV_mono h)
  · rw [h]; exact Nat.le_refl _

/-- 64 floats further on. -/
theorem rvN_step {v : Nat} (h : 4503599627370496 ≤ v) : rvN (v + 64) * 35184372088832 ≤ rvN v * 35184372088833 := by
  unfold rvN
  obtain ⟨e, he⟩ : ∃ e, v / 4503599627370496 = e + 1 := ⟨v / 4503599627370496 - 1, by omega⟩
  by_cases hc : v % 4503599627370496 + 64 < 4503599627370496
  · rw [show (v + 64) / 4503599627370496 = e + 1 from by omega, show (v + 64) % 4503599627370496 = v % 4503599627370496 + 64 from by omega, he, Nat.add_sub_cancel]
    rw [Nat.mul_right_comm, Nat.mul_right_comm _ (2 ^ e)]
    exact Nat.mul_le_mul_right _ (by omega)
  · rw [show (v + 64) / 4503599627370496 = e + 2 from by omega, show (v + 64) % 4503599627370496 = v % 4503599627370496 + 64 - 4503599627370496 from by omega, he, Nat.add_sub_cancel, show e + 2 - 1 = e + 1 from rfl, Nat.pow_succ, Nat.mul_comm (2 ^ e) 2, ← Nat.mul_assoc]
    rw [Nat.mul_right_comm, Nat.mul_right_comm _ (2 ^ e)]
    exact Nat.mul_le_mul_right _ (by omega)

theorem rvN_range {x : Nat} (h1 : 4499096027743125504 ≤ x) (h2 : x ≤ 4715268809856909312) : 2 ^ 1050 ≤ rvN x ∧ rvN x ≤ 2 ^ 1098 := by
  have e1 : rvN 4499096027743125504 = 2 ^ 1050 := by decide +kernel
  have e2 : rvN 4715268809856909312 = 2 ^ 1098 := by decide +kernel
  rw [← e1, ← e2]
  exact ⟨rvN_mono (by omega) h1, rvN_mono (by omega) h2⟩

theorem rvN_fv_range {x : Nat} {a : Int} (h : FV x a) (h1 : 4499096027743125504 ≤ x) (h2 : x ≤ 4715268809856909312) : a = (rvN x : Int) := by
  obtain ⟨_, s, m, i, r1, v1⟩ := h
  obtain ⟨_, t, n, j, r2, v2⟩ := fv_rv (x := x) (by omega) (by omega)
  rw [r1] at r2
  cases r2
  rw [← v1, v2]

/-- The rounding of a product, T is 2^1074. -/
theorem near_lin (Y P p T D Q R E : Nat) (hD : D * 9007199254740992 ≤ E * 9007199254740993) (hE : E * 1000000000000 ≤ p * 10000000001 * Y)
    (hQ : P * Y * 9007199254740991 ≤ Q * T * 9007199254740992) (hR : Q * 9007199254740991 ≤ R * 9007199254740992) (hP : p * 10000000005 * T ≤ 1000000000000 * P) (hT : 0 < T) : D ≤ R := by
  refine Nat.le_of_not_lt fun hlt => ?_
  have a1 : D * T * 9007199254740992 ≤ E * T * 9007199254740993 := by
    have := Nat.mul_le_mul_right T hD
    rw [Nat.mul_right_comm, Nat.mul_right_comm E] at this; exact this
  have a2 : E * T * 1000000000000 ≤ p * Y * T * 10000000001 := by
    have := Nat.mul_le_mul_right T hE
    rw [show E * 1000000000000 * T = E * T * 1000000000000 from by ac_rfl, show p * 10000000001 * Y * T = p * Y * T * 10000000001 from by ac_rfl] at this; exact this
  have a3 : Q * T * 9007199254740991 ≤ R * T * 9007199254740992 := by
    have := Nat.mul_le_mul_right T hR
    rw [Nat.mul_right_comm, Nat.mul_right_comm R] at this; exact this
  have a4 : p * Y * T * 10000000005 ≤ 1000000000000 * (P * Y) := by
    have := Nat.mul_le_mul_right Y hP
    rw [show p * 10000000005 * T * Y = p * Y * T * 10000000005 from by ac_rfl, Nat.mul_assoc 1000000000000] at this; exact this
  have a5 : R * T < D * T := Nat.mul_lt_mul_of_pos_right hlt hT
  generalize D * T = d at *
  generalize R * T = r at *
  generalize E * T = e at *
  generalize Q * T = q at *
  generalize P * Y = py at *
  generalize p * Y * T = z at *
  omega

theorem diff_lin (X Y W : Nat) (h1 : 1000000000000 * X ≤ 1000000000000 * Y + W) (h2 : 1000000000000 * Y - W ≤ 1000000000000 * X) (h3 : W ≤ 500000000050 * Y) : (X - Y + (Y - X)) * 1000000000000 ≤ W := by omega

theorem pow_facts : ∃ T, T = 2 ^ 1074 ∧ 0 < T ∧ 2 ^ 1050 * 16777216 = T ∧ 2 ^ 1098 = T * 16777216 := by
  refine ⟨_, rfl, Nat.two_pow_pos _, ?_, ?_⟩
  · rw [show (16777216 : Nat) = 2 ^ 24 from by decide, ← Nat.pow_add]
  · rw [show (16777216 : Nat) = 2 ^ 24 from by decide, ← Nat.pow_add]

/-- A value within a part of another one: what spec.Near says. -/
theorem near_val {V v part : Nat} {X Y P p : Nat} (hV : FV V (X : Int)) (hv : FV v (Y : Int)) (hpt : FV part (P : Int))
    (h1 : 1000000000000 * X ≤ (1000000000000 + p * 10000000001) * Y) (h2 : (1000000000000 - p * 10000000001) * Y ≤ 1000000000000 * X)
    (hP : p * 10000000005 * 2 ^ 1074 ≤ 1000000000000 * P) (hP2 : P ≤ 2 ^ 1074) (hY : 2 ^ 1050 ≤ Y) (hY2 : Y ≤ 2 ^ 1098) (p1 : 1 ≤ p) (p2 : p ≤ 50) : nearO V v part = some true := by
  obtain ⟨T, hT, hT0, e1, e2⟩ := pow_facts
  rw [← hT] at hP hP2
  have hL1 : T * 2 ^ 1050 ≤ 2 ^ 1074 * 2 ^ 1050 := by rw [hT]; exact Nat.le_refl _
  obtain ⟨L, hL⟩ : ∃ L, L = 2 ^ 1050 := ⟨_, rfl⟩
  obtain ⟨U, hU⟩ : ∃ U, U = 2 ^ 1098 := ⟨_, rfl⟩
  have hL0 : 0 < L := by rw [hL]; exact Nat.two_pow_pos _
  rw [← hL] at hY e1
  rw [← hU] at hY2 e2
  clear hL1
  have hPT : T ≤ 1000000000000 * P := by
    have : 1 * T ≤ p * 10000000005 * T := Nat.mul_le_mul_right T (by omega)
    omega
  have hXY : X ≤ 2 * Y := by
    have : p * 10000000001 * Y ≤ 500000000050 * Y := Nat.mul_le_mul_right Y (by omega)
    rw [Nat.add_mul] at h1
    omega
  have hYp : 1 ≤ Y := by omega
  have bX : X ≤ T * 33554432 := by omega
  have hE : (X - Y + (Y - X)) * 1000000000000 ≤ p * 10000000001 * Y := by
    rw [Nat.add_mul] at h1
    rw [Nat.sub_mul] at h2
    have : p * 10000000001 * Y ≤ 500000000050 * Y := Nat.mul_le_mul_right Y (by omega)
    exact diff_lin X Y _ h1 h2 this
  have hab : ((X : Int) - (Y : Int)).natAbs = X - Y + (Y - X) := by omega
  have small : ∀ {n : Nat}, n ≤ T * 33554432 → n.log2 < 2090 := fun {n} hn => log2_small (k := 1100) (by
    have : (2 : Nat) ^ 1100 = 2 ^ 1074 * 67108864 := by rw [show (67108864 : Nat) = 2 ^ 26 from by decide, ← Nat.pow_add]
    rw [this, ← hT]; clear this; omega) (by omega) |> fun h => Nat.lt_trans h (by decide)
  obtain ⟨d, hd, fd⟩ := fsub_fv hV hv (by rw [hab]; exact small (by omega))
  obtain ⟨m, hm, fm⟩ := maxO_abs fd
  obtain ⟨n, hn, fn⟩ := maxO_abs hv
  rw [rndI_abs, hab] at fm
  rw [Int.natAbs_natCast] at fn
  have hPY : P * Y ≤ T * T * 16777216 := by
    have := Nat.mul_le_mul hP2 hY2
    rw [e2, ← Nat.mul_assoc] at this; exact this
  have hPYlow : 2 ^ (1074 + 52) ≤ P * Y := by
    have a : T * L ≤ 1000000000000 * (P * Y) := by have := Nat.mul_le_mul hPT hY; rwa [Nat.mul_assoc] at this
    have b : 2 ^ (1074 + 52) * 1000000000000 ≤ T * L := by
      rw [hT, hL, Nat.pow_add, Nat.mul_assoc]
      refine Nat.mul_le_mul_left _ ?_
      have : (2 : Nat) ^ 1050 = 2 ^ 52 * 2 ^ 998 := by rw [← Nat.pow_add]
      rw [this]
      refine Nat.mul_le_mul_left _ ?_
      have : (2 : Nat) ^ 40 ≤ 2 ^ 998 := Nat.pow_le_pow_right (by decide) (by decide)
      exact Nat.le_trans (by decide) this
    have c : 2 ^ (1074 + 52) * 1000000000000 ≤ P * Y * 1000000000000 := by
      rw [Nat.mul_comm (P * Y)]; exact Nat.le_trans b a
    exact Nat.le_of_mul_le_mul_right c (by decide)
  obtain ⟨q, hq, fq⟩ := fmul_fv hpt fn (by
    rw [← Int.natCast_mul, Int.natAbs_natCast]
    refine log2_small ?_ (by omega)
    have : (2 : Nat) ^ 3164 = 2 ^ 1074 * 2 ^ 1074 * 2 ^ 1016 := by rw [← Nat.pow_add, ← Nat.pow_add]
    rw [this, ← hT]
    have h2 : T * T * 16777216 < T * T * 2 ^ 1016 := Nat.mul_lt_mul_of_pos_left (Nat.lt_of_lt_of_le (show 16777216 < 2 ^ 25 by decide) (Nat.pow_le_pow_right (by decide) (by decide))) (Nat.mul_pos hT0 hT0)
    exact Nat.lt_of_le_of_lt hPY h2)
  rw [← Int.natCast_mul, rndI_ofNat] at fq
  have hQ := rndT_rel 1074 (P * Y) (.inr hPYlow)
  rw [← hT] at hQ
  have fc := fv_rv (x := 4427486594234968593) (by decide) (by decide)
  have hc : rvN 4427486594234968593 ≤ T := by rw [hT]; decide +kernel
  have hQup : rndT 1074 (P * Y) ≤ T * 33554432 := by
    have : rndT 1074 (P * Y) * T ≤ T * 33554432 * T := by
      have : T * 33554432 * T = T * T * 33554432 := by ac_rfl
      rw [this]
      generalize T * T = TT at *
      generalize rndT 1074 (P * Y) * T = QT at *
      generalize P * Y = PY at *
      omega
    exact Nat.le_of_mul_le_mul_right this hT0
  have hk1 : (2 : Nat) ^ 1100 = 2 ^ 1074 * 67108864 := by rw [show (67108864 : Nat) = 2 ^ 26 from by decide, ← Nat.pow_add]
  rw [← hT] at hk1
  obtain ⟨r, hr, fr⟩ := fadd_fv fq fc (by
    rw [← Int.natCast_add, Int.natAbs_natCast]
    refine Nat.lt_trans (log2_small (k := 1100) ?_ (by omega)) (by decide)
    rw [hk1]; clear hk1 hL hU hT; omega)
  rw [← Int.natCast_add, rndI_ofNat] at fr
  have hR := rndT_rel 0 (rndT 1074 (P * Y) + rvN 4427486594234968593) (.inl rfl)
  rw [Nat.pow_zero, Nat.mul_one] at hR
  have hD := rndT_rel 0 (X - Y + (Y - X)) (.inl rfl)
  rw [Nat.pow_zero, Nat.mul_one] at hD
  have hfin := near_lin Y P p T _ _ _ _ hD.1 hE hQ.2 (Nat.le_trans (Nat.mul_le_mul_right _ (Nat.le_add_right _ _)) hR.2) hP hT0
  unfold nearO
  show (floatBits .sub .f64 V v).bind _ = _
  rw [hd]
  show (maxO d (negF d)).bind _ = _
  rw [hm]
  show (maxO v (negF v)).bind _ = _
  rw [hn]
  show (floatBits .mul .f64 part n).bind _ = _
  rw [hq]
  show (floatBits .add .f64 q 4427486594234968593).bind _ = _
  rw [hr]
  show some (fle m r) = _
  rw [fle_fv fm fr]
  simp only [decide_eq_true_eq, Option.some.injEq]
  exact Int.ofNat_le.2 hfin

/-- What is looked at in the part within which a value is near. -/
def partOk (p part : Nat) : Bool := posB part && (Nat.ble (p * 10000000005 * 2 ^ 1074) (1000000000000 * rvN part) && Nat.ble (rvN part) (2 ^ 1074))

theorem partOk_is {p part : Nat} (h : partOk p part = true) : FV part ((rvN part : Nat) : Int) ∧ p * 10000000005 * 2 ^ 1074 ≤ 1000000000000 * rvN part ∧ rvN part ≤ 2 ^ 1074 := by
  unfold partOk at h
  simp only [Bool.and_eq_true] at h
  obtain ⟨h1, h2, h3⟩ := h
  obtain ⟨a, b⟩ := posB_is h1
  exact ⟨fv_rv a (by omega), Nat.le_of_ble_eq_true h2, Nat.le_of_ble_eq_true h3⟩

/-- A product by a factor near one. -/
theorem prod_val {v c : Nat} (hv1 : 4499096027743125504 ≤ v) (hv2 : v ≤ 4715268809856909312) (hc1 : 4499096027743125504 ≤ c) (hc2 : c ≤ 4715268809856909312) :
    ∃ s S T : Nat, T = 2 ^ 1074 ∧ 0 < T ∧ fmul v c = some s ∧ FV s (S : Int) ∧ S * T * 9007199254740992 ≤ rvN v * rvN c * 9007199254740993 ∧ rvN v * rvN c * 9007199254740991 ≤ S * T * 9007199254740992 := by
  obtain ⟨T, hT, hT0, e1, e2⟩ := pow_facts
  obtain ⟨y1, y2⟩ := rvN_range hv1 hv2
  obtain ⟨c1, c2⟩ := rvN_range hc1 hc2
  have hlow : 2 ^ (1074 + 52) ≤ rvN v * rvN c := by
    have := Nat.mul_le_mul y1 c1
    rw [← Nat.pow_add] at this
    exact Nat.le_trans (Nat.pow_le_pow_right (by omega) (by omega)) this
  have hup : rvN v * rvN c < 2 ^ 3164 := by
    have := Nat.mul_le_mul y2 c2
    rw [← Nat.pow_add] at this
    exact Nat.lt_of_le_of_lt this (Nat.pow_lt_pow_right (by omega) (by omega))
  obtain ⟨s, hs, fs⟩ := fmul_fv (fv_rv (x := v) (by omega) (by omega)) (fv_rv (x := c) (by omega) (by omega)) (by
    rw [← Int.natCast_mul, Int.natAbs_natCast]
    exact log2_small hup (by omega))
  rw [← Int.natCast_mul, rndI_ofNat] at fs
  have hr := rndT_rel 1074 (rvN v * rvN c) (.inr hlow)
  rw [← hT] at hr
  exact ⟨s, _, T, hT, hT0, hs, fs, hr.1, hr.2⟩

theorem low_lin (B Y C S T : Nat) (h1 : B * 35184372088832 ≤ Y * 35184372088833) (h2 : Y * C * 9007199254740991 ≤ S * T * 9007199254740992) (h3 : 10000000009 * T ≤ 10000000000 * C) (hT : 0 < T) : B ≤ S := by
  refine Nat.le_of_not_lt fun hlt => ?_
  have a1 : B * T * 35184372088832 ≤ Y * T * 35184372088833 := by
    have := Nat.mul_le_mul_right T h1
    rw [Nat.mul_right_comm, Nat.mul_right_comm Y] at this; exact this
  have a2 : Y * T * 10000000009 ≤ Y * C * 10000000000 := by
    have := Nat.mul_le_mul_left Y h3
    rw [show Y * (10000000009 * T) = Y * T * 10000000009 from by ac_rfl, show Y * (10000000000 * C) = Y * C * 10000000000 from by ac_rfl] at this; exact this
  have a5 : S * T < B * T := Nat.mul_lt_mul_of_pos_right hlt hT
  generalize B * T = b at *
  generalize Y * T = y at *
  generalize Y * C = z at *
  generalize S * T = s at *
  omega

theorem high_lin (B Y C S T : Nat) (h1 : Y * 35184372088832 ≤ B * 35184372088833) (h2 : S * T * 9007199254740992 ≤ Y * C * 9007199254740993) (h3 : 10000000000 * C ≤ 9999999991 * T) (hT : 0 < T) : S ≤ B := by
  refine Nat.le_of_not_lt fun hlt => ?_
  have a1 : Y * T * 35184372088832 ≤ B * T * 35184372088833 := by
    have := Nat.mul_le_mul_right T h1
    rw [Nat.mul_right_comm, Nat.mul_right_comm B] at this; exact this
  have a2 : Y * C * 10000000000 ≤ Y * T * 9999999991 := by
    have := Nat.mul_le_mul_left Y h3
    rw [show Y * (9999999991 * T) = Y * T * 9999999991 from by ac_rfl, show Y * (10000000000 * C) = Y * C * 10000000000 from by ac_rfl] at this; exact this
  have a5 : B * T < S * T := Nat.mul_lt_mul_of_pos_right hlt hT
  generalize B * T = b at *
  generalize Y * T = y at *
  generalize Y * C = z at *
  generalize S * T = s at *
  omega

/-- A value of an index lies within the accuracy. -/
def Within (p V v : Nat) : Prop := 4503599627370496 ≤ V ∧ V < 9142307245003341824 ∧ 1000000000000 * rvN V ≤ (1000000000000 + p * 10000000001) * rvN v ∧ (1000000000000 - p * 10000000001) * rvN v ≤ 1000000000000 * rvN V

/-- What a mapping tells of a float. -/
def TellsV (idx : Nat → Option Int) (lower value : Int → Option Nat) (p part v : Nat) : Prop :=
  ∃ i V b b' s t, idx v = some i ∧ value i = some V ∧ lower i = some b ∧ lower (i + 1) = some b' ∧ nearO V v part = some true ∧ fmul v 4607182418804521008 = some s ∧ fgt b s = false ∧ fmul v 4607182418791010209 = some t ∧ flt b' t = false ∧ Within p V v

theorem tells_of_lies {idx : Nat → Option Int} {lower value : Int → Option Nat} {rb p part v : Nat} (hval : ∀ i b V, lower i = some b → qmul b rb = some V → value i = some V) (hl : Lies idx lower rb p v)
    (hp : partOk p part = true) (p1 : 1 ≤ p) (p2 : p ≤ 50) (v1 : 4517329193108106637 ≤ v) (v2 : v ≤ 4696837146684686336) : TellsV idx lower value p part v := by
  obtain ⟨i, b, b', V, f1, f2, f3, f4, f5, l1, l2⟩ := hl
  obtain ⟨r1, ⟨r2, r3⟩, q1, q2, q3, w1, w2⟩ := lookV_is f5
  obtain ⟨V1, V2⟩ := posB_is q1
  obtain ⟨b1, -⟩ := posB_is q2
  obtain ⟨c1, c2⟩ := posB_is q3
  obtain ⟨fp, hP, hP2⟩ := partOk_is hp
  obtain ⟨y1, y2⟩ := rvN_range (x := v) (by omega) (by omega)
  have hv := fv_rv (x := v) (by omega) (by omega)
  have n1 : 1000000000000 * rvN V ≤ (1000000000000 + p * 10000000001) * rvN v := Nat.le_trans w1 (Nat.mul_le_mul_left _ (rvN_mono b1 (by omega)))
  have n2 : (1000000000000 - p * 10000000001) * rvN v ≤ 1000000000000 * rvN V := Nat.le_trans (Nat.mul_le_mul_left _ (rvN_mono (by omega) l2)) w2
  have hn := near_val (fv_rv V1 (by omega)) hv fp n1 n2 hP hP2 y1 y2 p1 p2
  obtain ⟨s, S, T, hT, hT0, hs, fs, -, s2⟩ := prod_val (v := v) (c := 4607182418804521008) (by omega) (by omega) (by decide) (by decide)
  obtain ⟨t, S', T', hT', -, ht, ft, t1, -⟩ := prod_val (v := v) (c := 4607182418791010209) (by omega) (by omega) (by decide) (by decide)
  have hTT : T' = T := by rw [hT, hT']
  rw [hTT] at t1
  have k1 : 10000000009 * T ≤ 10000000000 * rvN 4607182418804521008 := by rw [hT]; decide +kernel
  have k2 : 10000000000 * rvN 4607182418791010209 ≤ 9999999991 * T := by rw [hT]; decide +kernel
  have g1 : rvN b ≤ S := by
    refine low_lin (rvN b) (rvN v) _ S T ?_ s2 k1 hT0
    exact Nat.le_trans (Nat.mul_le_mul_right _ (rvN_mono (by omega) l1)) (rvN_step (by omega))
  have g2 : S' ≤ rvN b' := by
    refine high_lin (rvN b') (rvN v) _ S' T ?_ t1 k2 hT0
    exact Nat.le_trans (Nat.mul_le_mul_right _ (rvN_mono (by omega) l2)) (rvN_step (by omega))
  refine ⟨i, V, b, b', s, t, f1, hval i b V f2 f4, f2, f3, hn, hs, ?_, ht, ?_, V1, V2, n1, n2⟩
  · rw [fgt_fv (fv_rv (x := b) (by omega) (by omega)) fs, decide_eq_false_iff_not]
    exact Int.not_lt.2 (Int.ofNat_le.2 g1)
  · rw [flt_fv (fv_rv (x := b') (by omega) (by omega)) ft, decide_eq_false_iff_not]
    exact Int.not_lt.2 (Int.ofNat_le.2 g2)
end Go.Proofs.Ytgommnmmifgbgaa
end
/-
  Closed looks at what a mapping is made of: what is looked at, and what it tells.
-/
section
namespace Go.Proofs.Ytgommnmmifgbgaa
open Go.RowKit
open Ieee

/-- The parameters of a mapping of the accuracy a: its offset, multiplier, the factor of its values; the indices of 10^-6 and 10^6; what it tells of itself. -/
def parLook (of : Nat → Option (Nat × Nat × Nat × Nat × Nat)) (acc : Nat → Option Nat) (idx : Nat → Option Int) (a off mult rb : Nat) (i0 i1 : Int) : Bool :=
  match of a with
  | some (g, o, m, mn, mx) =>
    Nat.beq o off && (Nat.beq m mult && (match acc g with
      | some ra => (match qadd 4607182418800017408 ra with | some r => Nat.beq r rb | none => false) && (match nearO ra a 4472406533629990549 with | some t => t | none => false)
      | none => false) && (qlt mn 4517329193108106637 && (qgt mx 4696837146684686336 && ((match idx 4517329193108106637 with | some i => decide (i = i0) | none => false) && (match idx 4696837146684686336 with | some i => decide (i = i1) | none => false)))))
  | none => false

theorem parLook_is {of : Nat → Option (Nat × Nat × Nat × Nat × Nat)} {acc : Nat → Option Nat} {idx : Nat → Option Int} {a off mult rb : Nat} {i0 i1 : Int} (h : parLook of acc idx a off mult rb i0 i1 = true) :
    ∃ g mn mx ra, of a = some (g, off, mult, mn, mx) ∧ acc g = some ra ∧ qadd 4607182418800017408 ra = some rb ∧ nearO ra a 4472406533629990549 = some true ∧ qlt mn 4517329193108106637 = true ∧ qgt mx 4696837146684686336 = true ∧ idx 4517329193108106637 = some i0 ∧ idx 4696837146684686336 = some i1 := by
  unfold parLook at h
  cases ho : of a with
  | none => rw [ho] at h; cases h
  | some q =>
    obtain ⟨g, o, m, mn, mx⟩ := q
    rw [ho] at h
    dsimp only at h
    cases ha : acc g with
    | none => rw [ha] at h; simp at h
    | some ra =>
      rw [ha] at h
      dsimp only at h
      cases hr : qadd 4607182418800017408 ra with
      | none => rw [hr] at h; simp at h
      | some r =>
        cases hn : nearO ra a 4472406533629990549 with
        | none => rw [hr, hn] at h; simp at h
        | some t =>
          cases h0 : idx 4517329193108106637 with
          | none => rw [hr, hn, h0] at h; simp at h
          | some j0 =>
            cases h1 : idx 4696837146684686336 with
            | none => rw [hr, hn, h0, h1] at h; simp at h
            | some j1 =>
              rw [hr, hn, h0, h1] at h
              simp only [Bool.and_eq_true, decide_eq_true_eq] at h
              obtain ⟨e1, ⟨e2, e3, e4⟩, e5, e6, e7, e8⟩ := h
              have e1 := beq_nat e1
              have e2 := beq_nat e2
              have e3 := beq_nat e3
              subst e1 e2 e3 e4 e7 e8
              exact ⟨g, mn, mx, ra, rfl, ha, hr, hn, e5, e6, rfl, rfl⟩
end Go.Proofs.Ytgommnmmifgbgaa
end
/-
  Steps of an error analysis: sums and products of floats that are near some fractions.
-/
section
namespace Go.Proofs.Ytgommnmmifgbgaa
open Ieee
set_option exponentiation.threshold 5000

theorem near_mul {x X y Y ex ey bX bY : Rat} (h1 : Near x X ex) (h2 : Near y Y ey) (x1 : -bX ≤ X) (x2 : X ≤ bX) (y1 : -bY ≤ y) (y2 : y ≤ bY) : Near (x * y) (X * Y) (bY * ex + bX * ey) := by
  obtain ⟨a1, a2⟩ := h1
  obtain ⟨b1, b2⟩ := h2
  have p1 := Rat.mul_nonneg (show 0 ≤ ex - (x - X) by grind) (show 0 ≤ bY - y by grind)
  have p2 := Rat.mul_nonneg (show 0 ≤ ex - (x - X) by grind) (show 0 ≤ bY + y by grind)
  have p3 := Rat.mul_nonneg (show 0 ≤ ex + (x - X) by grind) (show 0 ≤ bY - y by grind)
  have p4 := Rat.mul_nonneg (show 0 ≤ ex + (x - X) by grind) (show 0 ≤ bY + y by grind)
  have q1 := Rat.mul_nonneg (show 0 ≤ ey - (y - Y) by grind) (show 0 ≤ bX - X by grind)
  have q2 := Rat.mul_nonneg (show 0 ≤ ey - (y - Y) by grind) (show 0 ≤ bX + X by grind)
  have q3 := Rat.mul_nonneg (show 0 ≤ ey + (y - Y) by grind) (show 0 ≤ bX - X by grind)
  have q4 := Rat.mul_nonneg (show 0 ≤ ey + (y - Y) by grind) (show 0 ≤ bX + X by grind)
  constructor <;> grind

theorem near_bound {x X e b : Rat} (h : Near x X e) (x1 : -b ≤ X) (x2 : X ≤ b) : -(b + e) ≤ x ∧ x ≤ b + e := by
  obtain ⟨a1, a2⟩ := h
  constructor <;> grind

theorem prod_bound {x y bx by' : Rat} (x1 : -bx ≤ x) (x2 : x ≤ bx) (y1 : -by' ≤ y) (y2 : y ≤ by') : -(bx * by') ≤ x * y ∧ x * y ≤ bx * by' := by
  have p1 := Rat.mul_nonneg (show 0 ≤ bx - x by grind) (show 0 ≤ by' - y by grind)
  have p2 := Rat.mul_nonneg (show 0 ≤ bx - x by grind) (show 0 ≤ by' + y by grind)
  have p3 := Rat.mul_nonneg (show 0 ≤ bx + x by grind) (show 0 ≤ by' - y by grind)
  have p4 := Rat.mul_nonneg (show 0 ≤ bx + x by grind) (show 0 ≤ by' + y by grind)
  constructor <;> grind

/-- A product: of a, that is within ea of A (at most bA), and b, within eb of B (b itself at most bB). -/
theorem step_mul (K : Nat) {x y : Nat} {a b : Int} {A B ea eb bA bB : Rat} (Q e : Rat) (hK : K ≤ 2000) (hQ : BB K = Q) (hx : FV x a) (hy : FV y b) (na : Near (qv a) A ea) (nb : Near (qv b) B eb)
    (A1 : -bA ≤ A) (A2 : A ≤ bA) (B1 : -bB ≤ qv b) (B2 : qv b ≤ bB) (hlt : (bA + ea) * bB < Q) (he : bB * ea + bA * eb + Q / 18014398509481984 ≤ e) :
    ∃ z, fmul x y = some z ∧ FV z (rndI 1074 (a * b)) ∧ Near (qv (rndI 1074 (a * b))) (A * B) e := by
  obtain ⟨a1, a2⟩ := near_bound na A1 A2
  obtain ⟨p1, p2⟩ := prod_bound a1 a2 B1 B2
  obtain ⟨z, hz, hf, n1, n2⟩ := fmul_r K hx hy hK (by rw [hQ]; grind) (by rw [hQ]; grind)
  obtain ⟨m1, m2⟩ := near_mul na nb A1 A2 B1 B2
  rw [hQ] at n1 n2
  exact ⟨z, hz, hf, by grind, by grind⟩

theorem step_add (K : Nat) {x y : Nat} {a b : Int} {A B ea eb : Rat} (Q e : Rat) (hK : K ≤ 2000) (hQ : BB K = Q) (hx : FV x a) (hy : FV y b) (na : Near (qv a) A ea) (nb : Near (qv b) B eb)
    (s1 : -Q < A + B - (ea + eb)) (s2 : A + B + (ea + eb) < Q) (he : ea + eb + Q / 18014398509481984 ≤ e) :
    ∃ z, fadd x y = some z ∧ FV z (rndI 0 (a + b)) ∧ Near (qv (rndI 0 (a + b))) (A + B) e := by
  obtain ⟨a1, a2⟩ := na
  obtain ⟨b1, b2⟩ := nb
  obtain ⟨z, hz, hf, n1, n2⟩ := fadd_r K hx hy hK (by rw [hQ]; grind) (by rw [hQ]; grind)
  rw [hQ] at n1 n2
  exact ⟨z, hz, hf, by grind, by grind⟩

theorem step_sub (K : Nat) {x y : Nat} {a b : Int} {A B ea eb : Rat} (Q e : Rat) (hK : K ≤ 2000) (hQ : BB K = Q) (hx : FV x a) (hy : FV y b) (na : Near (qv a) A ea) (nb : Near (qv b) B eb)
    (s1 : -Q < A - B - (ea + eb)) (s2 : A - B + (ea + eb) < Q) (he : ea + eb + Q / 18014398509481984 ≤ e) :
    ∃ z, fsub x y = some z ∧ FV z (rndI 0 (a - b)) ∧ Near (qv (rndI 0 (a - b))) (A - B) e := by
  obtain ⟨a1, a2⟩ := na
  obtain ⟨b1, b2⟩ := nb
  obtain ⟨z, hz, hf, n1, n2⟩ := fsub_r K hx hy hK (by rw [hQ]; grind) (by rw [hQ]; grind)
  rw [hQ] at n1 n2
  exact ⟨z, hz, hf, by grind, by grind⟩
end Go.Proofs.Ytgommnmmifgbgaa
end
/-
  The cubically interpolated mapping's index: it is told for all floats from 2^-24 to 2^24; a float that is four or more above another one has no lesser index.
-/
section
namespace Go.Proofs.Ytgommnmmifgbgaa
open Go.RowKit
open Ieee
set_option exponentiation.threshold 5000

/-- A s^3 + B s^2 + C s, in fractions. -/
def polyC (a b c s : Rat) : Rat := ((a * s + b) * s + c) * s

/-- Its steps. -/
theorem poly_step {a b c s t : Rat} (ha : 0 ≤ a) (hst : s ≤ t) (ht : t ≤ 1) (h1 : 3 * a + b ≤ 0) (h2 : 37 / 50 ≤ 3 * a + 2 * b + c) : 37 / 50 * (t - s) ≤ polyC a b c t - polyC a b c s := by
  have e : polyC a b c t - polyC a b c s = (a * (t * t + s * t + s * s) + b * (t + s) + c) * (t - s) := by unfold polyC; grind
  rw [e]
  have hd : 0 ≤ t - s := by grind
  refine Rat.mul_le_mul_of_nonneg_right ?_ hd
  have q0 : 0 ≤ (t - s) * (t - s) := Rat.mul_nonneg hd hd
  have q1 : 0 ≤ (2 - (t + s)) * (2 - (t + s)) := Rat.mul_nonneg (by grind) (by grind)
  have q2 : 0 ≤ (t * t + s * t + s * s) - 3 * (t + s - 1) := by grind
  have q3 := Rat.mul_nonneg ha q2
  have q4 : 0 ≤ -(3 * a + b) * (2 - (t + s)) := Rat.mul_nonneg (by grind) (by grind)
  grind

theorem cub_chain {xa xb xc xs : Nat} {a b c S : Int} (hA : FV xa a) (hB : FV xb b) (hC : FV xc c) (hS : FV xs S) (a0 : 6 / 35 - 1 / 1000000 ≤ qv a) (a2 : qv a ≤ 6 / 35 + 1 / 1000000) (b1 : -(3 / 5 + 1 / 1000000) ≤ qv b) (b2 : qv b ≤ -(3 / 5 - 1 / 1000000)) (c1 : 10 / 7 - 1 / 1000000 ≤ qv c) (c2 : qv c ≤ 10 / 7 + 1 / 1000000) (s1 : 0 ≤ qv S) (s2 : qv S ≤ 1) :
    ∃ z1 z2 z3 z4 z5, fmul xa xs = some z1 ∧ fadd z1 xb = some z2 ∧ fmul z2 xs = some z3 ∧ fadd z3 xc = some z4 ∧ fmul z4 xs = some z5 ∧
      FV z5 (rndI 1074 (rndI 0 (rndI 1074 (rndI 0 (rndI 1074 (a * S) + b) * S) + c) * S)) ∧
      Near (qv (rndI 1074 (rndI 0 (rndI 1074 (rndI 0 (rndI 1074 (a * S) + b) * S) + c) * S))) (polyC (qv a) (qv b) (qv c) (qv S)) (23 / 8 / 9007199254740992) := by
  have a1 : 0 ≤ qv a := by grind
  obtain ⟨b0, b1', b2', b3, b4, b5, b6, b7, b13, b14, b15⟩ := BB_num
  have hh : ∀ K, BB (K + 1) = 2 * BB K := BB_succ
  have t1 := hh 1020
  have t2 := hh 1019
  simp only [Nat.reduceAdd] at t1 t2
  have B20 : BB 1020 = 1 / 2 := by grind
  have B19 : BB 1019 = 1 / 4 := by grind
  clear hh t1 t2
  have p1 : 0 ≤ qv a * qv S := Rat.mul_nonneg a1 s1
  have p2 : qv a * qv S ≤ qv a := by
    have := Rat.mul_le_mul_of_nonneg_left s2 a1
    grind
  obtain ⟨z1, g1, f1, n1, n1'⟩ := fmul_r 1019 hA hS (by decide) (by rw [B19]; grind) (by rw [B19]; grind)
  rw [B19] at n1 n1'
  obtain ⟨z2, g2, f2, n2, n2'⟩ := fadd_r 1021 f1 hB (by decide) (by rw [b0]; grind) (by rw [b0]; grind)
  rw [b0] at n2 n2'
  generalize hv1 : rndI 1074 (a * S) = v1 at *
  generalize hv2 : rndI 0 (v1 + b) = v2 at *
  -- the second product
  have e2 : Near (qv v2) (qv a * qv S + qv b) (5 / 8 / 9007199254740992) := ⟨by grind, by grind⟩
  obtain ⟨e2a, e2b⟩ := e2
  have p3 : -(3 / 5 + 1 / 100000) ≤ qv v2 := by grind
  have p4 : qv v2 ≤ 0 := by grind
  have err3 : -(5 / 8 / 9007199254740992) ≤ qv v2 * qv S - (qv a * qv S + qv b) * qv S ∧ qv v2 * qv S - (qv a * qv S + qv b) * qv S ≤ 5 / 8 / 9007199254740992 := by
    have d1 : 0 ≤ (qv v2 - (qv a * qv S + qv b) + 5 / 8 / 9007199254740992) * qv S := Rat.mul_nonneg (by grind) s1
    have d2 : 0 ≤ (5 / 8 / 9007199254740992 - (qv v2 - (qv a * qv S + qv b))) * qv S := Rat.mul_nonneg (by grind) s1
    constructor <;> grind
  obtain ⟨e3a, e3b⟩ := err3
  have low3 : -(9 / 20) ≤ (qv a * qv S + qv b) * qv S := by
    have sq : 0 ≤ (1 - qv S) * (1 - qv S) := Rat.mul_nonneg (by grind) (by grind)
    have q1 : 0 ≤ qv a * (qv S * qv S - 2 * qv S + 1) := Rat.mul_nonneg a1 (by grind)
    have q2 : 0 ≤ (-(qv b) - 2 * qv a) * (1 - qv S) := Rat.mul_nonneg (by grind) (by grind)
    grind
  have up3 : (qv a * qv S + qv b) * qv S ≤ 0 := by
    have : 0 ≤ -(qv a * qv S + qv b) * qv S := Rat.mul_nonneg (by grind) s1
    grind
  obtain ⟨z3, g3, f3, n3, n3'⟩ := fmul_r 1020 f2 hS (by decide) (by rw [B20]; grind) (by rw [B20]; grind)
  rw [B20] at n3 n3'
  generalize hv3 : rndI 1074 (v2 * S) = v3 at *
  obtain ⟨z4, g4, f4, n4, n4'⟩ := fadd_r 1022 f3 hC (by decide) (by rw [b1']; grind) (by rw [b1']; grind)
  rw [b1'] at n4 n4'
  generalize hv4 : rndI 0 (v3 + c) = v4 at *
  have e4a : -(15 / 8 / 9007199254740992) ≤ qv v4 - ((qv a * qv S + qv b) * qv S + qv c) := by grind
  have e4b : qv v4 - ((qv a * qv S + qv b) * qv S + qv c) ≤ 15 / 8 / 9007199254740992 := by grind
  have err5 : -(15 / 8 / 9007199254740992) ≤ qv v4 * qv S - ((qv a * qv S + qv b) * qv S + qv c) * qv S ∧ qv v4 * qv S - ((qv a * qv S + qv b) * qv S + qv c) * qv S ≤ 15 / 8 / 9007199254740992 := by
    have d1 : 0 ≤ (qv v4 - ((qv a * qv S + qv b) * qv S + qv c) + 15 / 8 / 9007199254740992) * qv S := Rat.mul_nonneg (by grind) s1
    have d2 : 0 ≤ (15 / 8 / 9007199254740992 - (qv v4 - ((qv a * qv S + qv b) * qv S + qv c))) * qv S := Rat.mul_nonneg (by grind) s1
    constructor <;> grind
  obtain ⟨e5a, e5b⟩ := err5
  have v4a : 0 ≤ qv v4 := by grind
  have v4b : qv v4 ≤ 3 / 2 := by grind
  have p5 : 0 ≤ qv v4 * qv S := Rat.mul_nonneg v4a s1
  have p6 : qv v4 * qv S ≤ qv v4 := by
    have := Rat.mul_le_mul_of_nonneg_left s2 v4a
    grind
  obtain ⟨z5, g5, f5, n5, n5'⟩ := fmul_r 1022 f4 hS (by decide) (by rw [b1']; grind) (by rw [b1']; grind)
  rw [b1'] at n5 n5'
  refine ⟨z1, z2, z3, z4, z5, g1, g2, g3, g4, g5, f5, ?_, ?_⟩
  · unfold polyC; grind
  · unfold polyC; grind
end Go.Proofs.Ytgommnmmifgbgaa
end
/-
  The cubic mapping's index: it is told for all floats from 2^-24 to 2^24; a float that is four or more above another one has no lesser index.
-/
section
namespace Go.Proofs.Ytgommnmmifgbgaa
open Go.RowKit
open Ieee
set_option exponentiation.threshold 5000

theorem qv_PVe (s : Bool) (m e t : Nat) (D : Rat) (h : e + t = 1074) (hD : D = ((2 ^ t : Nat) : Rat)) : qv (PV s m e) * D = (if s then (-1 : Rat) else 1) * (m : Rat) := by
  have h1 := uw_mul (e + t) h
  rw [Nat.pow_add, Rat.natCast_mul, ← hD] at h1
  have e1 : qv (PV s m e) = (if s then (-1 : Rat) else 1) * ((m : Rat) * ((2 ^ e : Nat) : Rat) * uw) := by
    unfold qv PV
    cases s
    · rw [if_neg (by decide), if_neg (by decide), Int.one_mul, Rat.intCast_natCast, Rat.natCast_mul]; grind
    · rw [if_pos rfl, if_pos rfl, Int.neg_one_mul, Rat.intCast_neg, Rat.intCast_natCast, Rat.natCast_mul]; grind
  rw [e1]
  cases s
  · simp only [Bool.false_eq_true, if_false]; grind
  · simp only [if_true]; grind

def cA : Int := PV false 6176365203250966 1019
def cB : Int := PV true 5404319552844595 1021
def cC : Int := PV false 6433713753386423 1022
theorem cA_fv : FV 4595344385493786390 cA := enB_fv false (m := 6176365203250966) (e := 1019) (by decide) (by decide) (by decide)
theorem cB_fv : FV 13826951575952896819 cB := enB_fv true (m := 5404319552844595) (e := 1021) (by decide) (by decide) (by decide)
theorem cC_fv : FV 4609112532926033335 cC := enB_fv false (m := 6433713753386423) (e := 1022) (by decide) (by decide) (by decide)
theorem cA_qv : qv cA = 6176365203250966 / 36028797018963968 := by
  have h := qv_PVe false 6176365203250966 1019 55 36028797018963968 (by decide) (by rw [show (2 : Nat) ^ 55 = 36028797018963968 from by decide]; rfl)
  simp only [Bool.false_eq_true, if_false] at h
  have : qv cA = qv (PV false 6176365203250966 1019) := rfl
  rw [this]
  have e : ((6176365203250966 : Nat) : Rat) = 6176365203250966 := rfl
  rw [e] at h
  grind
theorem cB_qv : qv cB = -(5404319552844595 / 9007199254740992) := by
  have h := qv_PVe true 5404319552844595 1021 53 9007199254740992 (by decide) (by rw [show (2 : Nat) ^ 53 = 9007199254740992 from by decide]; rfl)
  simp only [if_true] at h
  have : qv cB = qv (PV true 5404319552844595 1021) := rfl
  rw [this]
  have e : ((5404319552844595 : Nat) : Rat) = 5404319552844595 := rfl
  rw [e] at h
  grind
theorem cC_qv : qv cC = 6433713753386423 / 4503599627370496 := by
  have h := qv_PVe false 6433713753386423 1022 52 4503599627370496 (by decide) (by rw [show (2 : Nat) ^ 52 = 4503599627370496 from by decide]; rfl)
  simp only [Bool.false_eq_true, if_false] at h
  have : qv cC = qv (PV false 6433713753386423 1022) := rfl
  rw [this]
  have e : ((6433713753386423 : Nat) : Rat) = 6433713753386423 := rfl
  rw [e] at h
  grind
attribute [irreducible] cA cB cC

/-- The rounded polynomial at m / 2^52. -/
def cubY (S : Int) : Int := rndI 1074 (rndI 0 (rndI 1074 (rndI 0 (rndI 1074 (cA * S) + cB) * S) + cC) * S)

theorem qv_m (m J : Nat) (hJ : J = 1022) : qv ((m : Int) * 2 ^ J) = (m : Rat) / 4503599627370496 := by
  have h := qv_PVe false m J 52 4503599627370496 (by omega) (by rw [show (2 : Nat) ^ 52 = 4503599627370496 from by decide]; rfl)
  have e : PV false m J = (m : Int) * 2 ^ J := by unfold PV; rw [pow_cast, Int.natCast_mul]; simp
  rw [e] at h
  simp only [Bool.false_eq_true, if_false] at h
  grind

theorem cub_at {xs m J : Nat} (hJ : J = 1022) (hm : m ≤ 4503599627370496) (hS : FV xs ((m : Int) * 2 ^ J)) :
    ∃ z1 z2 z3 z4 z5, fmul 4595344385493786390 xs = some z1 ∧ fadd z1 13826951575952896819 = some z2 ∧ fmul z2 xs = some z3 ∧ fadd z3 4609112532926033335 = some z4 ∧ fmul z4 xs = some z5 ∧
      FV z5 (cubY ((m : Int) * 2 ^ J)) ∧ Near (qv (cubY ((m : Int) * 2 ^ J))) (polyC (qv cA) (qv cB) (qv cC) ((m : Rat) / 4503599627370496)) (23 / 8 / 9007199254740992) := by
  have hq := qv_m m J hJ
  have m0 : (0 : Rat) ≤ (m : Rat) := Rat.natCast_nonneg
  have m1 : (m : Rat) ≤ 4503599627370496 := by
    have := Rat.natCast_le_natCast.2 hm
    exact this
  have h := cub_chain cA_fv cB_fv cC_fv hS (by rw [cA_qv]; grind) (by rw [cA_qv]; grind) (by rw [cB_qv]; grind) (by rw [cB_qv]; grind) (by rw [cC_qv]; grind) (by rw [cC_qv]; grind) (by rw [hq]; grind) (by rw [hq]; grind)
  rw [hq] at h
  exact h

/-- m / 2^52 as a float. -/
theorem frac_fv (m J : Nat) (hJ : J = 1022) (hm : m < 4503599627370496) : ∃ x, FV x ((m : Int) * 2 ^ J) := by
  have e : (m : Int) * 2 ^ J = (if false then (-1 : Int) else 1) * ((m * 2 ^ ((-52 : Int) + 1074 + (0 : Nat)).toNat : Nat) : Int) := by
    rw [show ((-52 : Int) + 1074 + (0 : Nat)).toNat = J from by omega, pow_cast, Int.natCast_mul]; simp
  have hlt : ((m : Int) * 2 ^ J).natAbs.log2 < 2090 + 0 := by
    rw [pow_cast, Int.natAbs_mul, Int.natAbs_natCast, Int.natAbs_natCast]
    by_cases h0 : m = 0
    · rw [h0, Nat.zero_mul]; decide
    · rw [log2_pow_mul _ _ (Nat.pos_of_ne_zero h0)]
      have : m.log2 < 53 := (Nat.log2_lt h0).2 (by omega)
      omega
  have := fv_nearest false m (-52) 0 _ (by decide) e hlt
  rw [rndI_exact (m : Int) J (by omega)] at this
  exact ⟨_, this⟩

theorem cubY_near {m J : Nat} (hJ : J = 1022) (hm : m < 4503599627370496) : Near (qv (cubY ((m : Int) * 2 ^ J))) (polyC (qv cA) (qv cB) (qv cC) ((m : Rat) / 4503599627370496)) (23 / 8 / 9007199254740992) := by
  obtain ⟨x, hx⟩ := frac_fv m J hJ hm
  obtain ⟨z1, z2, z3, z4, z5, _, _, _, _, _, _, h⟩ := cub_at hJ (by omega) hx
  exact h

theorem cubY_step {m n J : Nat} (hJ : J = 1022) (h : m + 4 ≤ n) (hn : n < 4503599627370496) : cubY ((m : Int) * 2 ^ J) ≤ cubY ((n : Int) * 2 ^ J) := by
  obtain ⟨a1, a2⟩ := cubY_near hJ (show m < 4503599627370496 by omega)
  obtain ⟨b1, b2⟩ := cubY_near hJ hn
  have m0 : (0 : Rat) ≤ (m : Rat) := Rat.natCast_nonneg
  have n1 : (n : Rat) ≤ 4503599627370496 := by
    have := Rat.natCast_le_natCast.2 (show n ≤ 4503599627370496 by omega)
    exact this
  have mn : (m : Rat) + 4 ≤ (n : Rat) := by
    have := Rat.natCast_le_natCast.2 h
    rw [Rat.natCast_add] at this
    exact this
  have st := poly_step (a := qv cA) (b := qv cB) (c := qv cC) (s := (m : Rat) / 4503599627370496) (t := (n : Rat) / 4503599627370496) (by rw [cA_qv]; grind) (by grind) (by grind) (by rw [cA_qv, cB_qv]; grind) (by rw [cA_qv, cB_qv, cC_qv]; grind)
  refine le_of_qv ?_
  grind
end Go.Proofs.Ytgommnmmifgbgaa
end
