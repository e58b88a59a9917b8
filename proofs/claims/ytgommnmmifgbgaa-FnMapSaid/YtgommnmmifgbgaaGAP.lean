/-
  The cubic mapping's index, whole.
-/
import Derived.Test.YtgommnmmifgbgaaGAM
section
namespace Go.Proofs.Ytgommnmmifgbgaa
open Go.RowKit
open Ieee
set_option exponentiation.threshold 5000

def cubLow (m : Nat) : Bool := decide (0 ≤ cubY ((m : Int) * 2 ^ 1022))
def cubTop (m : Nat) : Bool := decide (cubY (((4503599627370496 - m : Nat) : Int) * 2 ^ 1022) ≤ 1 * 2 ^ 1074)
theorem cub_low : (cubLow 0 && cubLow 1 && cubLow 2 && cubLow 3 && cubLow 4 && cubLow 5 && cubLow 6 && cubLow 7) = true := by decide +kernel
theorem cub_top : (cubTop 1 && cubTop 2 && cubTop 3 && cubTop 4 && cubTop 5 && cubTop 6 && cubTop 7 && cubTop 8) = true := by decide +kernel

theorem cubY_low {m J : Nat} (hJ : J = 1022) (hm : m < 4503599627370496) : 0 ≤ cubY ((m : Int) * 2 ^ J) := by
  by_cases h : m < 8
  · have hl := cub_low
    simp only [Bool.and_eq_true] at hl
    obtain ⟨⟨⟨⟨⟨⟨⟨l0, l1⟩, l2⟩, l3⟩, l4⟩, l5⟩, l6⟩, l7⟩ := hl
    subst hJ
    have key : cubLow m = true := by
      match m, h with
      | 0, _ => exact l0
      | 1, _ => exact l1
      | 2, _ => exact l2
      | 3, _ => exact l3
      | 4, _ => exact l4
      | 5, _ => exact l5
      | 6, _ => exact l6
      | 7, _ => exact l7
    exact of_decide_eq_true key
  · obtain ⟨b1, b2⟩ := cubY_near hJ hm
    have n1 : (m : Rat) ≤ 4503599627370496 := by
      have := Rat.natCast_le_natCast.2 (show m ≤ 4503599627370496 by omega)
      exact this
    have n0 : 8 ≤ (m : Rat) := by
      have := Rat.natCast_le_natCast.2 (show 8 ≤ m by omega)
      exact this
    have st := poly_step (a := qv cA) (b := qv cB) (c := qv cC) (s := 0) (t := (m : Rat) / 4503599627370496) (by rw [cA_qv]; grind) (by grind) (by grind) (by rw [cA_qv, cB_qv]; grind) (by rw [cA_qv, cB_qv, cC_qv]; grind)
    have p0 : polyC (qv cA) (qv cB) (qv cC) 0 = 0 := by unfold polyC; grind
    rw [p0] at st
    have e0 : qv 0 = 0 := by unfold qv; simp
    refine le_of_qv ?_
    rw [e0]
    grind

theorem cubY_top {m J : Nat} (hJ : J = 1022) (hm : m < 4503599627370496) : cubY ((m : Int) * 2 ^ J) ≤ 1 * 2 ^ (52 + J) := by
  by_cases h : 4503599627370496 ≤ m + 8
  · have hl := cub_top
    simp only [Bool.and_eq_true] at hl
    obtain ⟨⟨⟨⟨⟨⟨⟨l1, l2⟩, l3⟩, l4⟩, l5⟩, l6⟩, l7⟩, l8⟩ := hl
    subst hJ
    obtain ⟨k, hk⟩ : ∃ k, k = 4503599627370496 - m := ⟨_, rfl⟩
    have hmk : m = 4503599627370496 - k := by omega
    have hk8 : k < 9 := by omega
    have hk0 : k ≠ 0 := by omega
    have key : cubTop k = true := by
      match k, hk8, hk0 with
      | 1, _, _ => exact l1
      | 2, _, _ => exact l2
      | 3, _, _ => exact l3
      | 4, _, _ => exact l4
      | 5, _, _ => exact l5
      | 6, _, _ => exact l6
      | 7, _, _ => exact l7
      | 8, _, _ => exact l8
    have := of_decide_eq_true key
    rw [hmk]
    exact this
  · obtain ⟨b1, b2⟩ := cubY_near hJ hm
    have n0 : (0 : Rat) ≤ (m : Rat) := Rat.natCast_nonneg
    have n1 : (m : Rat) + 8 ≤ 4503599627370496 := by
      have := Rat.natCast_le_natCast.2 (show m + 8 ≤ 4503599627370496 by omega)
      rw [Rat.natCast_add] at this
      exact this
    have st := poly_step (a := qv cA) (b := qv cB) (c := qv cC) (s := (m : Rat) / 4503599627370496) (t := 1) (by rw [cA_qv]; grind) (by grind) (by grind) (by rw [cA_qv, cB_qv]; grind) (by rw [cA_qv, cB_qv, cC_qv]; grind)
    have p1 : polyC (qv cA) (qv cB) (qv cC) 1 ≤ 1 + 1 / 9007199254740992 := by unfold polyC; rw [cA_qv, cB_qv, cC_qv]; grind
    have e1 := qv_pow 1 (52 + J) (by omega)
    refine le_of_qv ?_
    rw [e1]
    have : (((1 : Int) : Int) : Rat) = 1 := rfl
    rw [this]
    grind

/-- The value of the cubic log. -/
def cubA (J x : Nat) : Int := rndI 0 (cubY (((x % 4503599627370496 : Nat) : Int) * 2 ^ J) + (((x / 4503599627370496 : Nat) : Int) - 1023) * 2 ^ (52 + J))

theorem cubA_step {x y J : Nat} (hJ : J = 1022) (h : x + 4 ≤ y) : cubA J x ≤ cubA J y := by
  unfold cubA
  refine rndI_mono 0 ?_
  have hx := Nat.mod_lt x (show 0 < 4503599627370496 by decide)
  have hy := Nat.mod_lt y (show 0 < 4503599627370496 by decide)
  by_cases he : x / 4503599627370496 = y / 4503599627370496
  · rw [he]
    have := cubY_step hJ (m := x % 4503599627370496) (n := y % 4503599627370496) (by omega) hy
    omega
  · have t1 := cubY_top hJ hx
    have t2 := cubY_low hJ hy
    have hp : (0 : Int) ≤ 2 ^ (52 + J) := by rw [pow_cast]; exact Int.natCast_nonneg _
    have h1 : ((x / 4503599627370496 : Nat) : Int) - 1023 + 1 ≤ ((y / 4503599627370496 : Nat) : Int) - 1023 := by omega
    have h2 := Int.mul_le_mul_of_nonneg_right h1 hp
    rw [Int.add_mul] at h2
    omega

theorem logCub_val {x : Nat} (h1 : 4499096027743125504 ≤ x) (h2 : x ≤ 4715268809856909312) (J : Nat) (hJ : J = 1022) : ∃ z, logCubF x = some z ∧ FV z (cubA J x) ∧ -64 ≤ qv (cubA J x) ∧ qv (cubA J x) ≤ 64 := by
  obtain ⟨b0, b1, b2, b3, b4, b5, b6, b7, b13, b14, b15⟩ := BB_num
  have hE := expo_fv (x := x) (by omega) (by omega) (52 + J) (by omega)
  have hS := signi_fv (x := x) (by omega)
  have qE := qv_pow (((x / 4503599627370496 : Nat) : Int) - 1023) (52 + J) (by omega)
  have qS := qv_PV52 (4503599627370496 + x % 4503599627370496)
  have hm := Nat.mod_lt x (show 0 < 4503599627370496 by decide)
  have hO := i2f_fv 1 (52 + J) (by omega) (by decide)
  have qO := qv_pow 1 (52 + J) (by omega)
  have ho1 : floatOfInt .f64 1 = 4607182418800017408 := by decide +kernel
  rw [ho1] at hO
  have qO' : qv (1 * 2 ^ (52 + J)) = 1 := by rw [qO]; rfl
  have r1 : (-24 : Rat) ≤ ((((x / 4503599627370496 : Nat) : Int) - 1023 : Int) : Rat) := by
    have := Rat.intCast_le_intCast.2 (show (-24 : Int) ≤ ((x / 4503599627370496 : Nat) : Int) - 1023 by omega)
    exact this
  have r2 : ((((x / 4503599627370496 : Nat) : Int) - 1023 : Int) : Rat) ≤ 24 := by
    have := Rat.intCast_le_intCast.2 (show ((x / 4503599627370496 : Nat) : Int) - 1023 ≤ (24 : Int) by omega)
    exact this
  have r3 : (0 : Rat) ≤ ((4503599627370496 + x % 4503599627370496 : Nat) : Rat) := by
    have := Rat.natCast_le_natCast.2 (show 0 ≤ 4503599627370496 + x % 4503599627370496 by omega)
    exact this
  have r4 : ((4503599627370496 + x % 4503599627370496 : Nat) : Rat) ≤ 9007199254740992 := by
    have := Rat.natCast_le_natCast.2 (show 4503599627370496 + x % 4503599627370496 ≤ 9007199254740992 by omega)
    exact this
  -- s, exactly
  obtain ⟨zs, gs, fs, -, -⟩ := fsub_r 1027 hS hO (by decide) (by rw [qS, qO', b6]; grind) (by rw [qS, qO', b6]; grind)
  have es : PV false (4503599627370496 + x % 4503599627370496) 1022 - 1 * 2 ^ (52 + J) = ((x % 4503599627370496 : Nat) : Int) * 2 ^ J := by
    rw [← hJ]
    have e : PV false (4503599627370496 + x % 4503599627370496) J = ((4503599627370496 + x % 4503599627370496 : Nat) : Int) * 2 ^ J := by
      unfold PV; rw [pow_cast, Int.natCast_mul]; simp
    rw [e, Int.pow_add, show (2 : Int) ^ 52 = 4503599627370496 from by decide, Int.one_mul, ← Int.sub_mul]
    congr 1
    omega
  rw [es, rndI_exact _ J (by omega)] at fs
  obtain ⟨z1, z2, z3, z4, z5, g1, g2, g3, g4, g5, f5, -⟩ := cub_at hJ (by omega) fs
  have t1 := qv_le (cubY_low hJ hm)
  have t2 := qv_le (cubY_top hJ hm)
  have e0 : qv 0 = 0 := by unfold qv; simp
  rw [e0] at t1
  rw [qO'] at t2
  generalize hY : cubY (((x % 4503599627370496 : Nat) : Int) * 2 ^ J) = Y at *
  obtain ⟨z6, g6, f6, k1, k2⟩ := fadd_r 1027 f5 hE (by decide) (by rw [qE, b6]; grind) (by rw [qE, b6]; grind)
  rw [qE, b6] at k1 k2
  have hcA : cubA J x = rndI 0 (Y + (((x / 4503599627370496 : Nat) : Int) - 1023) * 2 ^ (52 + J)) := by unfold cubA; rw [hY]
  rw [hcA]
  refine ⟨z6, ?_, f6, by grind, by grind⟩
  unfold logCubF
  simp only [gs, g1, g2, g3, g4, g5, g6, Option.bind_some]

theorem idxCub_val {off mult : Nat} {c o : Int} (hm : FV mult c) (ho : FV off o) (c1 : 0 < qv c) (c2 : qv c ≤ 128) (o1 : 0 ≤ qv o) (o2 : qv o ≤ 128) {x : Nat} (h1 : 4499096027743125504 ≤ x) (h2 : x ≤ 4715268809856909312) (J : Nat) (hJ : J = 1022) :
    idxCubF off mult x = some (tailV (52 + J) c o (cubA J x)) := by
  obtain ⟨z, hz, hf, a1, a2⟩ := logCub_val h1 h2 J hJ
  unfold idxCubF
  rw [hz]
  exact tail_some (by omega) hf hm ho a1 a2 c1 c2 o1 o2

theorem idxCub_step {off mult : Nat} {c o : Int} (hm : FV mult c) (ho : FV off o) (c1 : 0 < qv c) (c2 : qv c ≤ 128) (o1 : 0 ≤ qv o) (o2 : qv o ≤ 128) {x y : Nat} (h1 : 4499096027743125504 ≤ x) (h : x + 4 ≤ y) (h2 : y ≤ 4715268809856909312) :
    ∃ i j, idxCubF off mult x = some i ∧ idxCubF off mult y = some j ∧ i ≤ j := by
  obtain ⟨J, hJ⟩ : ∃ J, J = 1022 := ⟨_, rfl⟩
  have hc : 0 ≤ c := by
    have e0 : qv 0 = 0 := by unfold qv; simp
    have := lt_of_qv (a := 0) (b := c) (by rw [e0]; exact c1)
    omega
  exact ⟨_, _, idxCub_val hm ho c1 c2 o1 o2 h1 (by omega) J hJ, idxCub_val hm ho c1 c2 o1 o2 (by omega) h2 J hJ, tailV_mono hc (cubA_step hJ h)⟩
end Go.Proofs.Ytgommnmmifgbgaa
end
