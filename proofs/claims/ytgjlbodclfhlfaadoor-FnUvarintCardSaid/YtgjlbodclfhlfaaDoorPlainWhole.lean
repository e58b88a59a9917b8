/-
  Plain: a whole number from 0 to 2^52, one more, one less: the number itself.
-/
import Derived.Test.YtgjlbodclfhlfaaDoorFloat
namespace Go.Proofs.YtgjlbodclfhlfaaDoor
open Ieee
set_option exponentiation.threshold 3000
set_option linter.unusedSimpArgs false

/-- 2^1074, its digits unseen. -/
def unit : Int := 2 ^ (1074 : Nat)
theorem unit_pos : 0 < unit := Int.pow_pos (by decide)
theorem sv_zero_place (s : Bool) (m : Nat) : sv s m 0 = (if s then -1 else 1) * ((m : Int) * unit) := by
  unfold sv unit; rw [signed_eq]; rfl

theorem read_one : double.read 4607182418800017408 = .number false 4503599627370496 (-52) := by decide +kernel
theorem read_nought : double.read 0 = .number false 0 (-1074) := by decide +kernel
theorem read_most : double.read 4841369599423283200 = .number false 4503599627370496 0 := by decide +kernel
theorem sv_one : sv false 4503599627370496 (-52) = unit := by
  unfold sv unit
  rw [signed_eq, show ((-52 : Int) + 1074).toNat = 1022 from rfl, show (1074 : Nat) = 52 + 1022 from rfl, Int.pow_add]
  show 1 * (((4503599627370496 : Nat) : Int) * 2 ^ 1022) = _
  rw [Int.one_mul]
  congr 1
theorem sv_minus_one : sv true 4503599627370496 (-52) = -unit := by
  rw [← sv_one]; unfold sv; rw [signed_eq, signed_eq]; simp
theorem sv_nought (s : Bool) (i : Int) : sv s 0 i = 0 := by unfold sv; rw [signed_eq]; simp
theorem sv_most : sv false 4503599627370496 0 = 4503599627370496 * unit := by rw [sv_zero_place]; simp

theorem sv_abs (s : Bool) (m : Nat) (i : Int) (V : Int) (h : sv s m i = V) : m * 2 ^ (i + 1074).toNat = V.natAbs := by
  subst h
  unfold sv
  rw [signed_eq]
  cases s <;> simp [Int.natAbs_mul, Int.natAbs_pow]

theorem unit_nat : unit.natAbs = 2 ^ 1074 := by unfold unit; rw [Int.natAbs_pow]; rfl

/-- A sum that is whole is exact. -/
theorem sum_whole (s t : Bool) (m n : Nat) (i j : Int) (N : Int) (hi : -1074 ≤ i) (hj : -1074 ≤ j) (h : sv s m i + sv t n j = N * unit) (hN : N.natAbs < 9007199254740992) :
    ∃ d u k l, (Datum.number s m i).sum (.number t n j) = some d ∧ double.read (double.write d) = .number u k l ∧ -1074 ≤ l ∧ sv u k l = N * unit ∧ double.write d < 18446744073709551616 := by
  obtain ⟨ns, mg, b, h1, h2, h3, _⟩ := sum_sv s t m n i j hi hj
  rw [h] at h3
  have ha := sv_abs _ _ _ _ h3
  rw [Int.natAbs_mul, unit_nat] at ha
  obtain ⟨k, l, h4, h5, h6⟩ := nearest_whole ns mg b N.natAbs 1074 h2 ha rfl hN
  exact ⟨_, ns, k, l, h1, h4, h5, h6.trans h3, double.write_lt _⟩

theorem cut_zero_le (s : Bool) (n d : Nat) : Toward.zero.cut s n d ≤ n := by
  unfold Toward.cut
  simp
  exact Nat.div_le_self _ _

theorem whole_facts (fb : Nat) (h1 : (FloatKind.f64.format.order fb 0 == some .gt || FloatKind.f64.format.order fb 0 == some .eq) = true) (h2 : (FloatKind.f64.format.order fb 4841369599423283200 == some .lt || FloatKind.f64.format.order fb 4841369599423283200 == some .eq) = true) :
    ∃ r z n, floatBits .add .f64 fb 4607182418800017408 = some r ∧ r < 18446744073709551616 ∧ floatBits .sub .f64 r 4607182418800017408 = some z ∧ floatToIntVal .f64 fb .i64 = some n ∧
      (FloatKind.f64.format.order fb (floatOfInt .f64 n) = some .eq → FloatKind.f64.format.order z fb = some .eq) := by
  show ∃ r z n, double.add fb 4607182418800017408 = some r ∧ r < 18446744073709551616 ∧ double.sub r 4607182418800017408 = some z ∧ floatToIntVal .f64 fb .i64 = some n ∧ (double.order fb (floatOfInt .f64 n) = some .eq → double.order z fb = some .eq)
  have h1' : (double.order fb 0 == some .gt || double.order fb 0 == some .eq) = true := h1
  have h2' : (double.order fb 4841369599423283200 == some .lt || double.order fb 4841369599423283200 == some .eq) = true := h2
  clear h1 h2
  unfold Format.order at h1' h2'
  rw [read_nought] at h1'
  rw [read_most] at h2'
  cases hf : double.read fb with
  | nan s f => rw [hf] at h1'; simp [Datum.order] at h1'
  | infinity s => rw [hf] at h1' h2'; cases s <;> simp [Datum.order] at h1' h2'
  | number s m i =>
    obtain ⟨hi, hi2, hm⟩ := read_number hf
    rw [hf, order_sv _ _ _ _ _ _ hi (by omega), sv_nought] at h1'
    rw [hf, order_sv _ _ _ _ _ _ hi (by omega), sv_most] at h2'
    have hv0 : 0 ≤ sv s m i := by
      rcases Int.lt_trichotomy (sv s m i) 0 with h | h | h
      · rw [Int.compare_eq_lt.2 h] at h1'; simp at h1'
      · omega
      · omega
    have hv1 : sv s m i ≤ 4503599627370496 * unit := by
      rcases Int.lt_trichotomy (sv s m i) (4503599627370496 * unit) with h | h | h
      · omega
      · omega
      · rw [Int.compare_eq_gt.2 h] at h2'; simp at h2'
    clear h1' h2'
    -- one more, one less
    obtain ⟨ns, mg, b, a1, a2, a3, _⟩ := sum_sv s false m 4503599627370496 i (-52) hi (by omega)
    have hadd : double.add fb 4607182418800017408 = some (double.nearest ns mg b) := by
      unfold Format.add; rw [hf, read_one, a1]; rfl
    obtain ⟨z, hz⟩ : ∃ z, double.sub (double.nearest ns mg b) 4607182418800017408 = some z := by
      unfold Format.sub
      rw [read_one]
      rcases nearest_no_nan ns mg b with ⟨s', m', i', h, _⟩ | ⟨s', h⟩
      · rw [h]; exact ⟨_, rfl⟩
      · rw [h]; exact ⟨_, rfl⟩
    -- cut
    obtain ⟨n, hn, hnb⟩ : ∃ n, floatToIntVal .f64 fb .i64 = some n ∧ n.natAbs < 9007199254740992 := by
      have hc : ∃ c, (double.read fb).toInt .zero = some c ∧ c.natAbs < 9007199254740992 := by
        rw [hf]
        refine ⟨_, rfl, ?_⟩
        rw [signed_eq]
        have hle : Toward.zero.cut s (m <<< i.toNat) (-i).toNat < 9007199254740992 := by
          refine Nat.lt_of_le_of_lt (cut_zero_le _ _ _) ?_
          rw [Nat.shiftLeft_eq]
          by_cases hi0 : 0 < i
          · have ha := sv_abs _ _ _ _ (Eq.refl (sv s m i))
            have hle : (sv s m i).natAbs ≤ 4503599627370496 * 2 ^ 1074 := by
              have := unit_nat
              have hu := unit_pos
              rw [← this]; omega
            rw [← ha, show (i + 1074).toNat = i.toNat + 1074 from by omega, Nat.pow_add, ← Nat.mul_assoc] at hle
            have := Nat.le_of_mul_le_mul_right hle (Nat.two_pow_pos _)
            omega
          · rw [show i.toNat = 0 from by omega]; simpa using hm
        generalize Toward.zero.cut s (m <<< i.toNat) (-i).toNat = C at hle ⊢
        cases s <;> simp [Int.natAbs_mul] <;> omega
      obtain ⟨c, hc1, hc2⟩ := hc
      refine ⟨c, ?_, hc2⟩
      unfold floatToIntVal
      show (match (double.read fb).toInt .zero with | some n => _ | none => none) = _
      rw [hc1]
      have e1 : IntKind.i64.min = -9223372036854775808 := by decide
      have e2 : IntKind.i64.max = 9223372036854775807 := by decide
      simp only [e1, e2]
      rw [if_pos (by omega)]
    refine ⟨_, z, n, hadd, double.nearest_lt _ _ _, hz, hn, fun he => ?_⟩
    -- the number is whole
    have hnum : floatOfInt .f64 n = double.nearest (n < 0) n.natAbs 0 := rfl
    obtain ⟨k, l, b1, b2, b3⟩ := nearest_whole (n < 0) n.natAbs 0 n.natAbs 1074 (by omega) rfl rfl hnb
    have hs : sv (decide (n < 0)) n.natAbs 0 = n * unit := by
      rw [sv_zero_place, ← Int.mul_assoc]
      congr 1
      by_cases h : n < 0 <;> simp [h] <;> omega
    rw [hs] at b3
    unfold Format.order at he ⊢
    rw [hf, hnum, b1, order_sv _ _ _ _ _ _ hi b2, b3] at he
    have hw : sv s m i = n * unit := by simpa using he
    clear he b1 b2 b3 hs hnum
    have hu := unit_pos
    have hn0 : 0 ≤ n := by
      rcases Int.lt_or_le n 0 with h | h
      · have := Int.mul_neg_of_neg_of_pos h hu; omega
      · exact h
    have hn1 : n ≤ 4503599627370496 := by
      rw [hw] at hv1
      exact Int.le_of_mul_le_mul_right hv1 hu
    obtain ⟨d, u, k, l, c1, c2, c3, c4, _⟩ := sum_whole s false m 4503599627370496 i (-52) (n + 1) hi (by omega) (by rw [hw, sv_one]; rw [Int.add_mul, Int.one_mul]) (by omega)
    rw [a1] at c1
    obtain rfl := Option.some.inj c1
    have c2' : double.read (double.nearest ns mg b) = .number u k l := c2
    obtain ⟨d2, u2, k2, l2, d1, d3, d4, d5, _⟩ := sum_whole u true k 4503599627370496 l (-52) n c3 (by omega) (by rw [c4, sv_minus_one, Int.add_mul, Int.one_mul]; omega) (by omega)
    unfold Format.sub at hz
    rw [read_one, c2'] at hz
    have hz' : some (double.write d2) = some z := by
      rw [← hz]
      show _ = Option.map _ ((Datum.number u k l).sum (.number true 4503599627370496 (-52)))
      rw [d1]; rfl
    obtain rfl := Option.some.inj hz'
    rw [d3, hf, order_sv _ _ _ _ _ _ d4 hi, d5, hw]
    simp
end Go.Proofs.YtgjlbodclfhlfaaDoor
