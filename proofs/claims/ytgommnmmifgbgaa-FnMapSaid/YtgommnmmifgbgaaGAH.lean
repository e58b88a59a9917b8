/-
  Floats by their values, the operations: a sum, a difference, a product, a quotient; comparing; to and from whole numbers.
-/
import Derived.Test.YtgommnmmifgbgaaGAG
import Derived.Test.YtgommnmmifgbgaaGAA
section
namespace Go.Proofs.Ytgommnmmifgbgaa
open Ieee
set_option exponentiation.threshold 5000

/-- x is a finite float of value a (in units of 2^-1074). -/
def FV (x : Nat) (a : Int) : Prop := x < 18446744073709551616 ∧ ∃ s m i, double.read x = .number s m i ∧ sv s m i = a

theorem nearest_lt (s : Bool) (mag : Nat) (place : Int) : double.nearest s mag place < 18446744073709551616 := double.write_lt (.number s mag place)

/-- The same with a sign. -/
def rndI (t : Nat) (z : Int) : Int :=
  match z with
  | .ofNat n => .ofNat (rndT t n)
  | .negSucc n => Int.negOfNat (rndT t (Nat.succ n))

theorem rndI_signed (t : Nat) (s : Bool) (n : Nat) : rndI t ((if s then -1 else 1) * (n : Int)) = (if s then -1 else 1) * (rndT t n : Int) := by
  cases s
  · show rndI t (1 * (n : Int)) = 1 * (rndT t n : Int)
    rw [Int.one_mul, Int.one_mul]; rfl
  · show rndI t (-1 * (n : Int)) = -1 * (rndT t n : Int)
    cases n with
    | zero => show rndI t (Int.ofNat 0) = _; show Int.ofNat (rndT t 0) = _; rw [rndT_zero]; rfl
    | succ k =>
      have : (-1 : Int) * ((k + 1 : Nat) : Int) = Int.negSucc k := by omega
      rw [this]
      show Int.negOfNat (rndT t (k + 1)) = _
      rw [Int.negOfNat_eq, Int.ofNat_eq_natCast]; omega

theorem sv_signed (s : Bool) (m : Nat) (i : Int) : sv s m i = (if s then -1 else 1) * ((m * 2 ^ (i + 1074).toNat : Nat) : Int) := by
  unfold sv
  rw [signed_eq, Int.natCast_mul, Int.natCast_pow]; rfl

theorem natAbs_signed (s : Bool) (n : Nat) : ((if s then (-1 : Int) else 1) * (n : Int)).natAbs = n := by
  cases s <;> simp

theorem fv_nearest (s : Bool) (mag : Nat) (place : Int) (t : Nat) (z : Int) (hp : 0 ≤ place + 1074 + t) (hz : z = (if s then -1 else 1) * ((mag * 2 ^ (place + 1074 + t).toNat : Nat) : Int)) (hlt : z.natAbs.log2 < 2090 + t) :
    FV (double.nearest s mag place) (rndI t z) := by
  have ha : z.natAbs = mag * 2 ^ (place + 1074 + t).toNat := by rw [hz]; exact natAbs_signed s _
  rw [ha] at hlt
  obtain ⟨m, i, h1, h2, h3⟩ := nearest_rnd s mag place t _ hp rfl hlt
  refine ⟨nearest_lt _ _ _, s, m, i, h1, ?_⟩
  rw [sv_signed, h3, hz, rndI_signed]

theorem fadd_fv {x y : Nat} {a b : Int} (hx : FV x a) (hy : FV y b) (hlt : (a + b).natAbs.log2 < 2090) : ∃ z, floatBits .add .f64 x y = some z ∧ FV z (rndI 0 (a + b)) := by
  obtain ⟨-, s, m, i, h1, rfl⟩ := hx
  obtain ⟨-, t, n, j, k1, rfl⟩ := hy
  obtain ⟨ns, mg, b, e, hb, hv, -⟩ := sum_sv s t m n i j (read_number h1).1 (read_number k1).1
  refine ⟨double.nearest ns mg b, ?_, ?_⟩
  · show ((double.read x).sum (double.read y)).map double.write = _
    rw [h1, k1, e]; rfl
  · rw [← hv] at hlt ⊢
    exact fv_nearest ns mg b 0 _ (by omega) (by rw [sv_signed]; simp) hlt

theorem opposite_sv (s : Bool) (m : Nat) (i : Int) : sv (!s) m i = - sv s m i := by
  rw [sv_signed, sv_signed]; cases s <;> simp

theorem fsub_fv {x y : Nat} {a b : Int} (hx : FV x a) (hy : FV y b) (hlt : (a - b).natAbs.log2 < 2090) : ∃ z, floatBits .sub .f64 x y = some z ∧ FV z (rndI 0 (a - b)) := by
  obtain ⟨-, s, m, i, h1, rfl⟩ := hx
  obtain ⟨-, t, n, j, k1, rfl⟩ := hy
  obtain ⟨ns, mg, b, e, hb, hv, -⟩ := sum_sv s (!t) m n i j (read_number h1).1 (read_number k1).1
  rw [opposite_sv, ← Int.sub_eq_add_neg] at hv
  refine ⟨double.nearest ns mg b, ?_, ?_⟩
  · show ((double.read x).sum (double.read y).opposite).map double.write = _
    rw [h1, k1]; show ((Datum.number s m i).sum (.number (!t) n j)).map double.write = _; rw [e]; rfl
  · rw [← hv] at hlt ⊢
    exact fv_nearest ns mg b 0 _ (by omega) (by rw [sv_signed]; simp) hlt

theorem sign_mul (s t : Bool) (m n : Nat) : ((if s then (-1 : Int) else 1) * (m : Int)) * ((if t then (-1 : Int) else 1) * (n : Int)) = (if (s ^^ t) then -1 else 1) * ((m * n : Nat) : Int) := by
  cases s <;> cases t <;> simp [Int.natCast_mul, Int.mul_neg, Int.neg_mul]

theorem fmul_fv {x y : Nat} {a b : Int} (hx : FV x a) (hy : FV y b) (hlt : (a * b).natAbs.log2 < 3164) : ∃ z, floatBits .mul .f64 x y = some z ∧ FV z (rndI 1074 (a * b)) := by
  obtain ⟨-, s, m, i, h1, rfl⟩ := hx
  obtain ⟨-, t, n, j, k1, rfl⟩ := hy
  have hi := (read_number h1).1
  have hj := (read_number k1).1
  refine ⟨double.nearest (s ^^ t) (m * n) (i + j), ?_, ?_⟩
  · show ((double.read x).product (double.read y)).map double.write = _
    rw [h1, k1]; rfl
  · refine fv_nearest (s ^^ t) (m * n) (i + j) 1074 _ (by omega) ?_ hlt
    rw [sv_signed, sv_signed, sign_mul]
    congr 2
    rw [show (i + j + 1074 + (1074 : Nat)).toNat = (i + 1074).toNat + (j + 1074).toNat from by omega, Nat.pow_add]
    ac_rfl

/-- A quotient, in units of 2^-1075, with a digit for what is left over. -/
def quoN (A B : Nat) : Nat := Nat.add (Nat.mul 2 (Nat.div (Nat.shiftLeft A 1074) B)) (bif Nat.beq (Nat.mod (Nat.shiftLeft A 1074) B) 0 then 0 else 1)

theorem quoN_eq (A B : Nat) : quoN A B = 2 * (A * 2 ^ 1074 / B) + if A * 2 ^ 1074 % B = 0 then 0 else 1 := by
  show 2 * ((A <<< 1074) / B) + (bif Nat.beq ((A <<< 1074) % B) 0 then 0 else 1) = _
  rw [Nat.shiftLeft_eq]
  congr 1
  by_cases h : A * 2 ^ 1074 % B = 0
  · rw [if_pos h, h]; rfl
  · rw [if_neg h]
    have : Nat.beq (A * 2 ^ 1074 % B) 0 = false := by
      cases hb : Nat.beq (A * 2 ^ 1074 % B) 0
      · rfl
      · exact absurd (Nat.eq_of_beq_eq_true hb) h
    rw [this]; rfl

theorem quoN_is (A B : Nat) : ∃ K, K = 1074 ∧ quoN A B = 2 * (A * 2 ^ K / B) + if A * 2 ^ K % B = 0 then 0 else 1 := ⟨1074, rfl, quoN_eq A B⟩

theorem log2_sticky (u σ : Nat) (hu : u ≠ 0) (hσ : σ ≤ 1) : (2 * u + σ).log2 = u.log2 + 1 := by
  refine (Nat.log2_eq_iff (by omega)).2 ⟨?_, ?_⟩
  · have := Nat.log2_self_le hu; rw [Nat.pow_succ]; omega
  · have : u < 2 ^ (u.log2 + 1) := Nat.lt_log2_self; rw [Nat.pow_succ]; omega

theorem sticky_le (c : Prop) [Decidable c] : (if c then 0 else 1 : Nat) ≤ 1 := by split <;> omega

theorem div_log (N D : Nat) (hD : 0 < D) (h : N / D ≠ 0) : 2 ^ (N / D).log2 * D ≤ N ∧ N < 2 ^ ((N / D).log2 + 1) * D := by
  have h1 := Nat.log2_self_le h
  have h2 : N / D < 2 ^ ((N / D).log2 + 1) := Nat.lt_log2_self
  exact ⟨(Nat.le_div_iff_mul_le hD).1 h1, (Nat.div_lt_iff_lt_mul hD).1 h2⟩

theorem pow_lt_of (x y D N : Nat) (h1 : 2 ^ x * D ≤ N) (h2 : N < 2 ^ y * D) : x < y := by
  refine Nat.lt_of_not_le fun h => ?_
  have : 2 ^ y * D ≤ 2 ^ x * D := Nat.mul_le_mul_right _ (Nat.pow_le_pow_right (by omega) h)
  omega

/-- The quotient as the model writes it is that of the values. -/
theorem quo_read (s : Bool) (m n : Nat) (i j : Int) (hm : m ≠ 0) (hn : n ≠ 0) (hi : -1074 ≤ i) (hj : -1074 ≤ j) (A B : Nat) (hA : A = m * 2 ^ (i + 1074).toNat) (hB : B = n * 2 ^ (j + 1074).toNat)
    (hlo : 60 ≤ (quoN A B).log2) (hhi : (quoN A B).log2 < 2090) (more : Nat) (hmore : more = 54 + n.log2 - m.log2) :
    ∃ mm ii, double.read (double.nearest s (2 * ((m <<< more) / n) + ((m <<< more) % n != 0).toNat) (i - j - more - 1)) = .number s mm ii ∧ -1074 ≤ ii ∧ mm * 2 ^ (ii + 1074).toNat = rndT 1 (quoN A B) := by
  have e2 : double.binade = 4503599627370496 := by decide
  have e3 : double.infRung = 2047 * 4503599627370496 := by decide
  have e4 : double.leastPlace = -1074 := by decide
  have hn' : 0 < n := Nat.pos_of_ne_zero hn
  have hm' : 0 < m := Nat.pos_of_ne_zero hm
  have hB0 : 0 < B := by rw [hB]; exact Nat.mul_pos hn' (Nat.two_pow_pos _)
  obtain ⟨I, hI⟩ : ∃ I : Nat, I = (i + 1074).toNat := ⟨_, rfl⟩
  obtain ⟨J, hJ⟩ : ∃ J : Nat, J = (j + 1074).toNat := ⟨_, rfl⟩
  rw [← hI] at hA
  rw [← hJ] at hB
  have hst : ((m <<< more) % n != 0).toNat = if (m * 2 ^ more) % n = 0 then 0 else 1 := by
    rw [Nat.shiftLeft_eq]
    by_cases h : (m * 2 ^ more) % n = 0
    · rw [if_pos h, h]; rfl
    · rw [if_neg h]
      have : ((m * 2 ^ more) % n != 0) = true := by simpa using h
      rw [this]; rfl
  rw [hst, Nat.shiftLeft_eq]
  obtain ⟨D, hD⟩ : ∃ D, D = m * 2 ^ more := ⟨_, rfl⟩
  rw [← hD]
  -- the model's quotient has 54 digits or more
  have hDlog : D.log2 = m.log2 + more := by rw [hD]; exact log2_pow_mul m more hm'
  have hD0 : D ≠ 0 := by rw [hD]; exact Nat.ne_of_gt (Nat.mul_pos hm' (Nat.two_pow_pos _))
  have hq53 : 2 ^ 53 ≤ D / n := by
    refine (Nat.le_div_iff_mul_le hn').2 ?_
    have h1 : n < 2 ^ (n.log2 + 1) := Nat.lt_log2_self
    have h2 : 2 ^ D.log2 ≤ D := Nat.log2_self_le hD0
    have h3 : 2 ^ 53 * n ≤ 2 ^ 53 * 2 ^ (n.log2 + 1) := Nat.mul_le_mul_left _ (Nat.le_of_lt h1)
    rw [← Nat.pow_add] at h3
    have h4 : 2 ^ (53 + (n.log2 + 1)) ≤ 2 ^ D.log2 := Nat.pow_le_pow_right (by omega) (by omega)
    omega
  have hq0 : D / n ≠ 0 := by
    have := Nat.two_pow_pos 53
    omega
  obtain ⟨L1, hL1⟩ : ∃ L, L = (D / n).log2 := ⟨_, rfl⟩
  have hL53 : 53 ≤ L1 := by rw [hL1]; exact (Nat.le_log2 hq0).2 hq53
  obtain ⟨a1, a2⟩ := div_log D n hn' hq0
  rw [← hL1] at a1 a2
  rw [quoN_eq] at hlo hhi ⊢
  obtain ⟨A', hA'⟩ : ∃ A', A' = A * 2 ^ 1074 := ⟨_, rfl⟩
  rw [← hA'] at hlo hhi ⊢
  have hq2 : A' / B ≠ 0 := by
    intro h
    rw [h] at hlo
    have hs := sticky_le (A' % B = 0)
    generalize (if A' % B = 0 then 0 else 1 : Nat) = σ at hlo hs
    have : (2 * 0 + σ).log2 ≤ 0 := by
      rcases Nat.lt_or_eq_of_le hs with h | h
      · have : σ = 0 := by omega
        subst this; decide
      · subst h; decide
    omega
  rw [log2_sticky _ _ hq2 (sticky_le _)] at hlo hhi
  obtain ⟨L2, hL2⟩ : ∃ L, L = (A' / B).log2 := ⟨_, rfl⟩
  rw [← hL2] at hlo hhi
  obtain ⟨b1, b2⟩ := div_log A' B hB0 hq2
  rw [← hL2] at b1 b2
  -- both speak of one number
  have hAD : A' * 2 ^ more = D * 2 ^ (I + 1074) := by rw [hA', hA, hD, Nat.pow_add]; ac_rfl
  have hBn : B = n * 2 ^ J := hB
  obtain ⟨U, hU⟩ : ∃ U, U = I + 1074 := ⟨_, rfl⟩
  rw [← hU] at hAD
  have hLL : L1 + U = L2 + more + J := by
    have c1 : 2 ^ (L1 + U) * n ≤ A' * 2 ^ more := by
      rw [hAD, Nat.pow_add, Nat.mul_right_comm]
      exact Nat.mul_le_mul_right _ a1
    have c2 : A' * 2 ^ more < 2 ^ (L1 + 1 + U) * n := by
      rw [hAD, Nat.pow_add, Nat.mul_right_comm]
      exact Nat.mul_lt_mul_of_pos_right a2 (Nat.two_pow_pos _)
    have d0 : ∀ L, 2 ^ (L + more + J) * n = 2 ^ L * B * 2 ^ more := fun L => by
      rw [hBn, Nat.pow_add, Nat.pow_add]; ac_rfl
    have d1 : 2 ^ (L2 + more + J) * n ≤ A' * 2 ^ more := by
      rw [d0]
      exact Nat.mul_le_mul_right _ b1
    have d2 : A' * 2 ^ more < 2 ^ (L2 + 1 + more + J) * n := by
      rw [d0]
      exact Nat.mul_lt_mul_of_pos_right b2 (Nat.two_pow_pos _)
    have := pow_lt_of _ _ _ _ c1 d2
    have := pow_lt_of _ _ _ _ d1 c2
    omega
  -- how the model rounds
  obtain ⟨q1, hq1⟩ : ∃ q, q = 2 * (D / n) + if D % n = 0 then 0 else 1 := ⟨_, rfl⟩
  rw [← hq1]
  have hq1l : q1.log2 = L1 + 1 := by rw [hq1, log2_sticky _ _ hq0 (sticky_le _), hL1]
  have hq10 : q1 ≠ 0 := by intro h; rw [h] at hq1l; simp at hq1l
  -- the last place, above -1074
  obtain ⟨d2, hd2⟩ : ∃ d : Nat, d + 51 = L2 := ⟨L2 - 51, by omega⟩
  have hlack : lack 1 (2 * (A' / B) + if A' % B = 0 then 0 else 1) = d2 := by
    rw [lack_eq, log2_sticky _ _ hq2 (sticky_le _), ← hL2]; omega
  rw [rndT_eq, hlack]
  have hd2' : 2 ^ d2 = 2 * 2 ^ (d2 - 1) := by rw [← Nat.pow_succ']; congr 1; omega
  have heven : 2 ^ (d2 - 1) % 2 = 0 := by rw [show d2 - 1 = (d2 - 2) + 1 from by omega, Nat.pow_succ]; omega
  rw [hd2', rhe_sticky A' B _ hB0 (Nat.two_pow_pos _) heven]
  have hlast : max (i - j - more - 1 + (q1.log2 : Int) - (double.fractionBits : Int)) double.leastPlace = ((d2 - 1 : Nat) : Int) - 1074 := by
    have : (double.fractionBits : Int) = 52 := rfl
    rw [this, e4, hq1l]; omega
  obtain ⟨e, he⟩ : ∃ e : Nat, (((d2 - 1 : Nat) : Int) - 1074 - (i - j - more - 1)).toNat = e + 1 := ⟨L1 - 52, by omega⟩
  have hkept : rhe q1 (2 ^ (e + 1)) = rhe A' (B * 2 ^ (d2 - 1)) := by
    have hev : 2 ^ e % 2 = 0 := by rw [show e = (e - 1) + 1 from by omega, Nat.pow_succ]; omega
    rw [Nat.pow_succ', hq1, rhe_sticky D n _ hn' (Nat.two_pow_pos _) hev]
    have c1 := rhe_scale D (n * 2 ^ e) (2 ^ U) (Nat.mul_pos hn' (Nat.two_pow_pos _)) (Nat.two_pow_pos _)
    have c2 := rhe_scale A' (B * 2 ^ (d2 - 1)) (2 ^ more) (Nat.mul_pos hB0 (Nat.two_pow_pos _)) (Nat.two_pow_pos _)
    rw [← c1, ← c2]
    congr 1
    · rw [Nat.mul_comm, ← hAD, Nat.mul_comm]
    · rw [hBn]
      have : 2 ^ U * 2 ^ e = 2 ^ J * 2 ^ (d2 - 1) * 2 ^ more := by
        rw [← Nat.pow_add, ← Nat.pow_add, ← Nat.pow_add]; congr 1; omega
      calc 2 ^ U * (n * 2 ^ e) = n * (2 ^ U * 2 ^ e) := by ac_rfl
        _ = n * (2 ^ J * 2 ^ (d2 - 1) * 2 ^ more) := by rw [this]
        _ = 2 ^ more * (n * 2 ^ J * 2 ^ (d2 - 1)) := by ac_rfl
  have hr : 4503599627370496 ≤ rhe A' (B * 2 ^ (d2 - 1)) ∧ rhe A' (B * 2 ^ (d2 - 1)) ≤ 9007199254740992 := by
    rw [← hkept]
    have h1 : 2 ^ (52 + (e + 1)) ≤ q1 := (Nat.le_log2 hq10).1 (by omega)
    have h2 : q1 < 2 ^ (53 + (e + 1)) := (Nat.log2_lt hq10).1 (by omega)
    exact rhe_range q1 (e + 1) h1 h2
  have hnear : double.nearest s q1 (i - j - more - 1) = double.word s ((d2 - 1) * 4503599627370496 + rhe A' (B * 2 ^ (d2 - 1))) := by
    unfold Format.nearest
    rw [if_neg hq10]
    simp only [hlast]
    rw [e2, e3, e4, he, show ((i - j - more - 1) - (((d2 - 1 : Nat) : Int) - 1074)).toNat = 0 from by omega, Nat.shiftLeft_zero, cut_rhe, hkept, show (((d2 - 1 : Nat) : Int) - 1074 - -1074).toNat = d2 - 1 from by omega]
    rw [Nat.min_eq_left (by omega)]
  rw [hnear]
  obtain ⟨mm, ii, h1, h2, _, _, h5⟩ := read_rung s (d2 - 1) (rhe A' (B * 2 ^ (d2 - 1))) (by omega) hr.2 (.inl hr.1) (by omega)
  exact ⟨mm, ii, h1, h2, h5⟩

/-- Two ratios of one value round alike. -/
theorem ratio_same (N D N' D' a b : Nat) (hD : 0 < D) (hD' : 0 < D') (h : N * D' * 2 ^ a = N' * D * 2 ^ b) (h0 : N / D ≠ 0) (h0' : N' / D' ≠ 0) :
    (N / D).log2 + a = (N' / D').log2 + b ∧ ∀ x y, x + a = y + b → rhe N (D * 2 ^ x) = rhe N' (D' * 2 ^ y) := by
  obtain ⟨a1, a2⟩ := div_log N D hD h0
  obtain ⟨b1, b2⟩ := div_log N' D' hD' h0'
  generalize (N / D).log2 = L at *
  generalize (N' / D').log2 = L' at *
  have up : ∀ (u v w D D' : Nat), 2 ^ u * D * D' * 2 ^ v = 2 ^ (u + v) * (D * D') := fun u v w D D' => by rw [Nat.pow_add]; ac_rfl
  constructor
  · have c1 : 2 ^ (L + a) * (D * D') ≤ N * D' * 2 ^ a := by
      rw [← up L a 0 D D']
      exact Nat.mul_le_mul_right _ (Nat.mul_le_mul_right _ a1)
    have c2 : N * D' * 2 ^ a < 2 ^ (L + 1 + a) * (D * D') := by
      rw [← up (L + 1) a 0 D D']
      exact Nat.mul_lt_mul_of_pos_right (Nat.mul_lt_mul_of_pos_right a2 hD') (Nat.two_pow_pos _)
    have d1 : 2 ^ (L' + b) * (D * D') ≤ N * D' * 2 ^ a := by
      rw [h, Nat.mul_comm D D', ← up L' b 0 D' D]
      exact Nat.mul_le_mul_right _ (Nat.mul_le_mul_right _ b1)
    have d2 : N * D' * 2 ^ a < 2 ^ (L' + 1 + b) * (D * D') := by
      rw [h, Nat.mul_comm D D', ← up (L' + 1) b 0 D' D]
      exact Nat.mul_lt_mul_of_pos_right (Nat.mul_lt_mul_of_pos_right b2 hD) (Nat.two_pow_pos _)
    have := pow_lt_of _ _ _ _ c1 d2
    have := pow_lt_of _ _ _ _ d1 c2
    omega
  · intro x y hxy
    have c1 := rhe_scale N (D * 2 ^ x) (D' * 2 ^ a) (Nat.mul_pos hD (Nat.two_pow_pos _)) (Nat.mul_pos hD' (Nat.two_pow_pos _))
    have c2 := rhe_scale N' (D' * 2 ^ y) (D * 2 ^ b) (Nat.mul_pos hD' (Nat.two_pow_pos _)) (Nat.mul_pos hD (Nat.two_pow_pos _))
    rw [← c1, ← c2]
    congr 1
    · calc D' * 2 ^ a * N = N * D' * 2 ^ a := by ac_rfl
        _ = N' * D * 2 ^ b := h
        _ = D * 2 ^ b * N' := by ac_rfl
    · calc D' * 2 ^ a * (D * 2 ^ x) = D * D' * (2 ^ x * 2 ^ a) := by ac_rfl
        _ = D * D' * (2 ^ y * 2 ^ b) := by rw [← Nat.pow_add, ← Nat.pow_add, hxy]
        _ = D * 2 ^ b * (D' * 2 ^ y) := by ac_rfl
end Go.Proofs.Ytgommnmmifgbgaa
end
/-
  Floats by their values, fit to be computed: sums, differences, products, quotients as partial functions of the values; comparing; to and from whole numbers.
-/
section
namespace Go.Proofs.Ytgommnmmifgbgaa
open Ieee
set_option exponentiation.threshold 5000

/-- How two stand. -/
theorem order_fv {x y : Nat} {a b : Int} (hx : FV x a) (hy : FV y b) : FloatKind.f64.format.order x y = some (compare a b) := by
  obtain ⟨-, s, m, i, r1, rfl⟩ := hx
  obtain ⟨-, t, n, j, r2, rfl⟩ := hy
  show (double.read x).order (double.read y) = _
  rw [r1, r2]
  exact order_sv s t m n i j (read_number r1).1 (read_number r2).1

theorem flt_fv {x y : Nat} {a b : Int} (hx : FV x a) (hy : FV y b) : flt x y = decide (a < b) := by
  unfold flt
  rw [order_fv hx hy]
  rcases Int.lt_trichotomy a b with h | h | h
  · rw [Int.compare_eq_lt.2 h]; simp [h]
  · rw [Int.compare_eq_eq.2 h]; simp [h]
  · rw [Int.compare_eq_gt.2 h]; simp; omega
theorem fgt_fv {x y : Nat} {a b : Int} (hx : FV x a) (hy : FV y b) : fgt x y = decide (b < a) := by
  unfold fgt
  rw [order_fv hx hy]
  rcases Int.lt_trichotomy a b with h | h | h
  · rw [Int.compare_eq_lt.2 h]; simp; omega
  · rw [Int.compare_eq_eq.2 h]; simp [h]
  · rw [Int.compare_eq_gt.2 h]; simp [h]
theorem feq_fv {x y : Nat} {a b : Int} (hx : FV x a) (hy : FV y b) : feq x y = decide (a = b) := by
  unfold feq
  rw [order_fv hx hy]
  rcases Int.lt_trichotomy a b with h | h | h
  · rw [Int.compare_eq_lt.2 h]; simp; omega
  · rw [Int.compare_eq_eq.2 h]; simp [h]
  · rw [Int.compare_eq_gt.2 h]; simp; omega
theorem fle_fv {x y : Nat} {a b : Int} (hx : FV x a) (hy : FV y b) : fle x y = decide (a ≤ b) := by
  unfold fle
  rw [order_fv hx hy]
  rcases Int.lt_trichotomy a b with h | h | h
  · rw [Int.compare_eq_lt.2 h]; simp; omega
  · rw [Int.compare_eq_eq.2 h]; simp [h]
  · rw [Int.compare_eq_gt.2 h]; simp; omega
theorem fge_fv {x y : Nat} {a b : Int} (hx : FV x a) (hy : FV y b) : fge x y = decide (b ≤ a) := by
  unfold fge
  rw [order_fv hx hy]
  rcases Int.lt_trichotomy a b with h | h | h
  · rw [Int.compare_eq_lt.2 h]; simp; omega
  · rw [Int.compare_eq_eq.2 h]; simp [h]
  · rw [Int.compare_eq_gt.2 h]; simp; omega
theorem isNum_fv {x : Nat} {a : Int} (hx : FV x a) : isNum x = true := by
  have := feq_fv hx hx
  unfold feq at this
  unfold isNum
  rw [this]; simp
end Go.Proofs.Ytgommnmmifgbgaa
end
/-
  Floats as (sign, mantissa, exponent), fit to be computed: sums, differences, products and quotients, each handed on; they tell what the floats do.
-/
section
namespace Go.Proofs.Ytgommnmmifgbgaa
open Ieee
set_option exponentiation.threshold 5000

/-- k of n, n told first. -/
def wn {α : Type} (n : Nat) (k : Nat → α) : α := Nat.rec (k 0) (fun m _ => k (Nat.succ m)) n
theorem wn_eq {α : Type} (n : Nat) (k : Nat → α) : wn n k = k n := by cases n <;> rfl

/-- One step of a search for the log. -/
def bl (n k t : Nat) : Nat := bif Nat.beq (Nat.shiftRight n (Nat.add k t)) 0 then k else Nat.add k t
/-- The log of a number below 2^64, by halves. -/
def lgS (n : Nat) : Nat :=
  bif Nat.beq (Nat.shiftRight n 64) 0 then
    wn (bl n 0 32) fun k => wn (bl n k 16) fun k => wn (bl n k 8) fun k => wn (bl n k 4) fun k => wn (bl n k 2) fun k => bl n k 1
  else Nat.log2 n

theorem bl_is {n k t : Nat} (h1 : n < 2 ^ (k + (t + t))) (h2 : 2 ^ k ≤ n ∨ k = 0) : n < 2 ^ (bl n k t + t) ∧ (2 ^ bl n k t ≤ n ∨ bl n k t = 0) := by
  have hb : bl n k t = if n / 2 ^ (k + t) = 0 then k else k + t := by
    show (bif Nat.beq (n >>> (k + t)) 0 then k else k + t) = _
    rw [Nat.shiftRight_eq_div_pow]
    by_cases h : n / 2 ^ (k + t) = 0
    · rw [if_pos h, h]; rfl
    · rw [if_neg h]
      cases hq : Nat.beq (n / 2 ^ (k + t)) 0
      · rfl
      · exact absurd (Nat.eq_of_beq_eq_true hq) h
  rw [hb]
  split
  · rename_i h
    rcases Nat.div_eq_zero_iff.1 h with h | h
    · have := Nat.two_pow_pos (k + t); omega
    · exact ⟨h, h2⟩
  · rename_i h
    refine ⟨by rwa [Nat.add_assoc], .inl ?_⟩
    refine Nat.le_of_not_lt fun hc => h (Nat.div_eq_of_lt hc)

theorem lgS_eq (n : Nat) : lgS n = n.log2 := by
  unfold lgS
  cases hc : Nat.beq (Nat.shiftRight n 64) 0
  · rfl
  · have h64 : n / 2 ^ 64 = 0 := by rw [← Nat.shiftRight_eq_div_pow]; exact Nat.eq_of_beq_eq_true hc
    have h0 : n < 2 ^ (0 + (32 + 32)) := by
      rcases Nat.div_eq_zero_iff.1 h64 with h | h
      · have := Nat.two_pow_pos 64; omega
      · exact h
    rw [cond_true, wn_eq, wn_eq, wn_eq, wn_eq, wn_eq]
    obtain ⟨a1, b1⟩ := bl_is (t := 32) h0 (.inr rfl)
    generalize bl n 0 32 = k1 at *
    obtain ⟨a2, b2⟩ := bl_is (t := 16) a1 b1
    generalize bl n k1 16 = k2 at *
    obtain ⟨a3, b3⟩ := bl_is (t := 8) a2 b2
    generalize bl n k2 8 = k3 at *
    obtain ⟨a4, b4⟩ := bl_is (t := 4) a3 b3
    generalize bl n k3 4 = k4 at *
    obtain ⟨a5, b5⟩ := bl_is (t := 2) a4 b4
    generalize bl n k4 2 = k5 at *
    obtain ⟨a6, b6⟩ := bl_is (t := 1) a5 b5
    generalize bl n k5 1 = k6 at *
    by_cases hn : n = 0
    · subst hn
      rcases b6 with h | h
      · have := Nat.two_pow_pos k6; omega
      · rw [h]; decide
    · rcases b6 with h | h
      · exact ((Nat.log2_eq_iff hn).2 ⟨h, a6⟩).symm
      · subst h
        exact ((Nat.log2_eq_iff hn).2 ⟨by omega, a6⟩).symm

/-- k of the log of n; g is a guess. -/
def lgK {α : Type} (g n : Nat) (k : Nat → α) : α :=
  wn (Nat.shiftRight n g) fun q =>
  bif Nat.beq q 1 then k g else
  bif Nat.beq q 0 then (bif Nat.beq (Nat.shiftRight n (Nat.sub g 1)) 1 then k (Nat.sub g 1) else wn (lgS n) k) else
  bif Nat.ble q 3 then k (Nat.succ g) else wn (lgS n) k

theorem log2_of_div {n g : Nat} (h : n / 2 ^ g = 1) : n.log2 = g := by
  have hp := Nat.two_pow_pos g
  have h1 : n = 2 ^ g * 1 + n % 2 ^ g := by have := Nat.div_add_mod n (2 ^ g); rw [h] at this; exact this.symm
  have h2 := Nat.mod_lt n hp
  refine (Nat.log2_eq_iff (by omega)).2 ⟨by omega, by rw [Nat.pow_succ]; omega⟩

theorem beq_nat {a b : Nat} (h : Nat.beq a b = true) : a = b := Nat.eq_of_beq_eq_true h
theorem beq_nat_false {a b : Nat} (h : Nat.beq a b = false) : a ≠ b := fun e => by subst e; rw [Nat.beq_refl] at h; cases h

theorem lgK_eq {α : Type} (g n : Nat) (k : Nat → α) : lgK g n k = k n.log2 := by
  unfold lgK
  rw [wn_eq]
  show (bif Nat.beq (n >>> g) 1 then k g else bif Nat.beq (n >>> g) 0 then (bif Nat.beq (n >>> (g - 1)) 1 then k (g - 1) else wn (lgS n) k) else bif Nat.ble (n >>> g) 3 then k (g + 1) else wn (lgS n) k) = _
  rw [Nat.shiftRight_eq_div_pow, Nat.shiftRight_eq_div_pow, wn_eq, lgS_eq]
  cases h1 : Nat.beq (n / 2 ^ g) 1
  · cases h2 : Nat.beq (n / 2 ^ g) 0
    · cases h3 : Nat.ble (n / 2 ^ g) 3
      · rfl
      · have a := beq_nat_false h1
        have b := beq_nat_false h2
        have c := Nat.le_of_ble_eq_true h3
        have : n / 2 ^ (g + 1) = 1 := by
          rw [Nat.pow_succ, ← Nat.div_div_eq_div_mul]
          generalize n / 2 ^ g = q at *
          omega
        show k (g + 1) = _
        rw [log2_of_div this]
    · cases h3 : Nat.beq (n / 2 ^ (g - 1)) 1
      · rfl
      · show k (g - 1) = _
        rw [log2_of_div (beq_nat h3)]
  · show k g = _
    rw [log2_of_div (beq_nat h1)]

/-- n * 2^b (l is the log of n), rounded. -/
def rnP {α : Type} (n b l : Nat) (k : Nat → Nat → Option α) : Option α :=
  bif Nat.ble l 52 then (bif Nat.ble (Nat.sub 52 l) b then wn (Nat.shiftLeft n (Nat.sub 52 l)) fun m => k m (Nat.sub b (Nat.sub 52 l)) else none) else
  wn (Nat.sub l 52) fun d => wn (Nat.shiftRight (Nat.add (Nat.add (Nat.mul 2 n) (Nat.sub (Nat.pow 2 d) 1)) (Nat.mod (Nat.shiftRight n d) 2)) (Nat.succ d)) fun m => wn (Nat.add b d) fun e => k m e

theorem rnP_is {α : Type} {n b l : Nat} {k : Nat → Nat → Option α} {r : α} (hl : n.log2 = l) (h : rnP n b l k = some r) :
    ∃ m e, k m e = some r ∧ l + b = e + 52 ∧ m = rhe (n * 2 ^ b) (2 ^ e) := by
  unfold rnP at h
  cases h1 : Nat.ble l 52
  · rw [h1] at h
    have hlt : 52 < l := by
      refine Nat.lt_of_not_le fun hc => ?_
      rw [Nat.ble_eq_true_of_le hc] at h1; cases h1
    simp only [cond_false, wn_eq] at h
    refine ⟨_, _, h, ?_, ?_⟩
    · show l + b = b + (l - 52) + 52
      omega
    · show (2 * n + (2 ^ (l - 52) - 1) + (n >>> (l - 52)) % 2) >>> (l - 52 + 1) = rhe (n * 2 ^ b) (2 ^ (b + (l - 52)))
      rw [Nat.pow_add, Nat.mul_comm n, rhe_scale _ _ _ (Nat.two_pow_pos _) (Nat.two_pow_pos _)]
      unfold rhe
      rw [Nat.shiftRight_eq_div_pow, Nat.shiftRight_eq_div_pow, Nat.pow_succ, Nat.mul_comm (2 ^ (l - 52)) 2]
  · rw [h1] at h
    have hle := Nat.le_of_ble_eq_true h1
    cases h2 : Nat.ble (Nat.sub 52 l) b
    · rw [h2] at h; cases h
    · rw [h2] at h
      have hb : 52 - l ≤ b := Nat.le_of_ble_eq_true h2
      simp only [cond_true, wn_eq] at h
      refine ⟨_, _, h, ?_, ?_⟩
      · show l + b = b - (52 - l) + 52
        omega
      · show n <<< (52 - l) = rhe (n * 2 ^ b) (2 ^ (b - (52 - l)))
        have e : n * 2 ^ b = n * 2 ^ (52 - l) * 2 ^ (b - (52 - l)) := by rw [Nat.mul_assoc, ← Nat.pow_add]; congr 2; omega
        rw [e, rhe_exact, Nat.shiftLeft_eq]

theorem rndT_of {t n b e l : Nat} (hn : n ≠ 0) (hl : n.log2 = l) (h : l + b = e + 52) (ht : t ≤ e) : rndT t (n * 2 ^ b) = rhe (n * 2 ^ b) (2 ^ e) * 2 ^ (e - t) := by
  rw [rndT_eq, lack_eq, log2_pow_mul n b (Nat.pos_of_ne_zero hn), hl, show max (l + b - 52) t = e from by omega]

/-- The value of (sign, mantissa, exponent). -/
def PV (s : Bool) (m e : Nat) : Int := (if s then -1 else 1) * ((m * 2 ^ e : Nat) : Int)

theorem rndI_PV (t : Nat) (s : Bool) (n b e : Nat) (hn : n ≠ 0) (h : n.log2 + b = e + 52) (ht : t ≤ e) : rndI t (PV s n b) = PV s (rhe (n * 2 ^ b) (2 ^ e)) (e - t) := by
  unfold PV
  rw [rndI_signed, rndT_of hn rfl h ht]

theorem PV_zero (s : Bool) (e : Nat) : PV s 0 e = 0 := by unfold PV; cases s <;> simp
theorem rndI_zero (t : Nat) : rndI t 0 = 0 := by show Int.ofNat (rndT t 0) = 0; rw [rndT_zero]; rfl

theorem PV_natAbs (s : Bool) (m e : Nat) : (PV s m e).natAbs = m * 2 ^ e := natAbs_signed s _

theorem PV_mul (s t : Bool) (m n e f : Nat) : PV s m e * PV t n f = PV (s ^^ t) (m * n) (e + f) := by
  unfold PV
  rw [sign_mul, Nat.pow_add]
  congr 2
  ac_rfl

theorem PV_neg (s : Bool) (m e : Nat) : PV (!s) m e = - PV s m e := by
  unfold PV; cases s <;> simp

def mulP {α : Type} (s : Bool) (m e : Nat) (t : Bool) (n f : Nat) (k : Bool → Nat → Nat → Option α) : Option α :=
  wn (Nat.mul m n) fun p => bif Nat.beq p 0 then k (Bool.xor s t) 0 0 else lgK 104 p fun l =>
  bif Nat.ble 1126 (Nat.add l (Nat.add e f)) && Nat.blt (Nat.add l (Nat.add e f)) 3164 then rnP p (Nat.add e f) l fun m e => wn (Nat.sub e 1074) fun e => k (Bool.xor s t) m e else none

theorem bif_pos {α : Type} {c : Bool} {x : Option α} {r : α} (h : (bif c then x else none) = some r) : c = true ∧ x = some r := by
  cases c
  · cases h
  · exact ⟨rfl, h⟩

theorem mulP_sound {α : Type} {x y : Nat} {s t : Bool} {m e n f : Nat} {k : Bool → Nat → Nat → Option α} {r : α} (hx : FV x (PV s m e)) (hy : FV y (PV t n f)) (h : mulP s m e t n f k = some r) :
    ∃ z s' m' e', fmul x y = some z ∧ FV z (PV s' m' e') ∧ k s' m' e' = some r := by
  unfold mulP at h
  rw [wn_eq] at h
  by_cases h0 : m * n = 0
  · have e0 : Nat.beq (Nat.mul m n) 0 = true := by show Nat.beq (m * n) 0 = true; rw [h0]; rfl
    rw [e0] at h
    have hv : PV s m e * PV t n f = 0 := by rw [PV_mul, h0, PV_zero]
    obtain ⟨z, hz, hf⟩ := fmul_fv hx hy (by rw [hv]; decide)
    rw [hv, rndI_zero] at hf
    exact ⟨z, _, 0, 0, hz, by rw [PV_zero]; exact hf, h⟩
  · have e0 : Nat.beq (Nat.mul m n) 0 = false := by
      cases hb : Nat.beq (Nat.mul m n) 0
      · rfl
      · exact absurd (beq_nat hb) h0
    rw [e0, cond_false, lgK_eq] at h
    obtain ⟨hc, h⟩ := bif_pos h
    rw [Bool.and_eq_true] at hc
    have c1 : 1126 ≤ (m * n).log2 + (e + f) := Nat.le_of_ble_eq_true hc.1
    have c2 : (m * n).log2 + (e + f) < 3164 := Nat.blt_eq ▸ hc.2
    obtain ⟨m', e', hk, hs, hm⟩ := rnP_is rfl h
    rw [wn_eq] at hk
    have hs' : (m * n).log2 + (e + f) = e' + 52 := hs
    have hm' : m' = rhe (m * n * 2 ^ (e + f)) (2 ^ e') := hm
    have hv := PV_mul s t m n e f
    obtain ⟨z, hz, hf⟩ := fmul_fv hx hy (by rw [hv, PV_natAbs, log2_pow_mul _ _ (Nat.pos_of_ne_zero h0)]; omega)
    rw [hv, rndI_PV 1074 _ _ _ e' h0 hs' (by omega), ← hm'] at hf
    exact ⟨z, _, m', e' - 1074, hz, hf, hk⟩

/-- A sum of two whole numbers with signs, at a place b; g is a guess of its log. -/
def sumP {α : Type} (s : Bool) (a : Nat) (t : Bool) (c : Nat) (b g : Nat) (k : Bool → Nat → Nat → Option α) : Option α :=
  bif Bool.xor s t then
    (bif Nat.ble c a then wn (Nat.sub a c) fun n => bif Nat.beq n 0 then k false 0 0 else lgK g n fun l => bif Nat.blt (Nat.add l b) 2090 then rnP n b l (k s) else none
     else wn (Nat.sub c a) fun n => lgK g n fun l => bif Nat.blt (Nat.add l b) 2090 then rnP n b l (k t) else none)
  else wn (Nat.add a c) fun n => bif Nat.beq n 0 then k s 0 0 else lgK g n fun l => bif Nat.blt (Nat.add l b) 2090 then rnP n b l (k s) else none

theorem sumP_at {α : Type} {s : Bool} {n b g : Nat} {k : Bool → Nat → Nat → Option α} {r : α} (hn : n ≠ 0) (h : (lgK g n fun l => bif Nat.blt (Nat.add l b) 2090 then rnP n b l (k s) else none) = some r) :
    ∃ s' m' e', k s' m' e' = some r ∧ rndI 0 (PV s n b) = PV s' m' e' ∧ (PV s n b).natAbs.log2 < 2090 := by
  rw [lgK_eq] at h
  obtain ⟨hc, h⟩ := bif_pos h
  have c2 : n.log2 + b < 2090 := Nat.blt_eq ▸ hc
  obtain ⟨m', e', hk, hs, hm⟩ := rnP_is rfl h
  refine ⟨s, m', e', hk, ?_, ?_⟩
  · rw [rndI_PV 0 _ _ _ e' hn hs (by omega), ← hm]; rfl
  · rw [PV_natAbs, log2_pow_mul _ _ (Nat.pos_of_ne_zero hn)]; omega

theorem PV_add_diff (s t : Bool) (a c b : Nat) (hst : (s ^^ t) = true) (h : c ≤ a) : PV s a b + PV t c b = PV s (a - c) b := by
  unfold PV
  rw [Nat.sub_mul, Int.natCast_sub (Nat.mul_le_mul_right _ h)]
  generalize a * 2 ^ b = A
  generalize c * 2 ^ b = C
  cases s <;> cases t <;> simp_all <;> omega

theorem PV_add_same (s t : Bool) (a c b : Nat) (hst : (s ^^ t) = false) : PV s a b + PV t c b = PV s (a + c) b := by
  unfold PV
  rw [Nat.add_mul]
  generalize a * 2 ^ b = A
  generalize c * 2 ^ b = C
  cases s <;> cases t <;> simp_all <;> omega

theorem sumP_sound {α : Type} {s t : Bool} {a c b g : Nat} {k : Bool → Nat → Nat → Option α} {r : α} (h : sumP s a t c b g k = some r) :
    ∃ s' m' e', k s' m' e' = some r ∧ rndI 0 (PV s a b + PV t c b) = PV s' m' e' ∧ (PV s a b + PV t c b).natAbs.log2 < 2090 := by
  unfold sumP at h
  cases hst : (s ^^ t)
  · rw [PV_add_same s t a c b hst]
    rw [hst, cond_false, wn_eq] at h
    cases h0 : Nat.beq (Nat.add a c) 0
    · rw [h0] at h
      exact sumP_at (beq_nat_false h0) h
    · rw [h0] at h
      have e0 : a + c = 0 := beq_nat h0
      rw [e0, PV_zero, rndI_zero]
      exact ⟨s, 0, 0, h, by rw [PV_zero], by decide⟩
  · rw [hst, cond_true] at h
    cases hle : Nat.ble c a
    · rw [hle, cond_false, wn_eq] at h
      have hlt : ¬ c ≤ a := fun hc => by rw [Nat.ble_eq_true_of_le hc] at hle; cases hle
      rw [Int.add_comm, PV_add_diff t s c a b (by rw [Bool.xor_comm]; exact hst) (by omega)]
      exact sumP_at (by omega) h
    · rw [hle, cond_true, wn_eq] at h
      have hle' := Nat.le_of_ble_eq_true hle
      rw [PV_add_diff s t a c b hst hle']
      cases h0 : Nat.beq (Nat.sub a c) 0
      · rw [h0] at h
        exact sumP_at (beq_nat_false h0) h
      · rw [h0] at h
        have e0 : a - c = 0 := beq_nat h0
        rw [e0, PV_zero, rndI_zero]
        exact ⟨false, 0, 0, h, by rw [PV_zero], by decide⟩

def addP {α : Type} (s : Bool) (m e : Nat) (t : Bool) (n f : Nat) (k : Bool → Nat → Nat → Option α) : Option α :=
  bif Nat.ble f e then wn (Nat.sub e f) fun d => sumP s (Nat.shiftLeft m d) t n f (Nat.add 52 d) k
  else wn (Nat.sub f e) fun d => sumP s m t (Nat.shiftLeft n d) e (Nat.add 52 d) k
def subP {α : Type} (s : Bool) (m e : Nat) (t : Bool) (n f : Nat) (k : Bool → Nat → Nat → Option α) : Option α := addP s m e (!t) n f k

theorem PV_shift (s : Bool) (m e f : Nat) (h : f ≤ e) : PV s (m <<< (e - f)) f = PV s m e := by
  unfold PV
  rw [Nat.shiftLeft_eq, Nat.mul_assoc, ← Nat.pow_add, show e - f + f = e from by omega]

theorem addP_val {α : Type} {s t : Bool} {m e n f : Nat} {k : Bool → Nat → Nat → Option α} {r : α} (h : addP s m e t n f k = some r) :
    ∃ s' m' e', k s' m' e' = some r ∧ rndI 0 (PV s m e + PV t n f) = PV s' m' e' ∧ (PV s m e + PV t n f).natAbs.log2 < 2090 := by
  unfold addP at h
  cases hc : Nat.ble f e
  · have hlt : ¬ f ≤ e := fun hc' => by rw [Nat.ble_eq_true_of_le hc'] at hc; cases hc
    rw [hc, cond_false, wn_eq] at h
    have := sumP_sound h
    rwa [show Nat.shiftLeft n (Nat.sub f e) = n <<< (f - e) from rfl, PV_shift t n f e (by omega)] at this
  · rw [hc, cond_true, wn_eq] at h
    have := sumP_sound h
    rwa [show Nat.shiftLeft m (Nat.sub e f) = m <<< (e - f) from rfl, PV_shift s m e f (Nat.le_of_ble_eq_true hc)] at this

theorem addP_sound {α : Type} {x y : Nat} {s t : Bool} {m e n f : Nat} {k : Bool → Nat → Nat → Option α} {r : α} (hx : FV x (PV s m e)) (hy : FV y (PV t n f)) (h : addP s m e t n f k = some r) :
    ∃ z s' m' e', fadd x y = some z ∧ FV z (PV s' m' e') ∧ k s' m' e' = some r := by
  obtain ⟨s', m', e', hk, hv, hl⟩ := addP_val h
  obtain ⟨z, hz, hf⟩ := fadd_fv hx hy hl
  rw [hv] at hf
  exact ⟨z, s', m', e', hz, hf, hk⟩

theorem subP_sound {α : Type} {x y : Nat} {s t : Bool} {m e n f : Nat} {k : Bool → Nat → Nat → Option α} {r : α} (hx : FV x (PV s m e)) (hy : FV y (PV t n f)) (h : subP s m e t n f k = some r) :
    ∃ z s' m' e', fsub x y = some z ∧ FV z (PV s' m' e') ∧ k s' m' e' = some r := by
  obtain ⟨s', m', e', hk, hv, hl⟩ := addP_val h
  rw [PV_neg, ← Int.sub_eq_add_neg] at hv hl
  obtain ⟨z, hz, hf⟩ := fsub_fv hx hy hl
  rw [hv] at hf
  exact ⟨z, s', m', e', hz, hf, hk⟩

theorem signed_inj {s t : Bool} {A B : Nat} (h : (if s then (-1 : Int) else 1) * (A : Int) = (if t then (-1 : Int) else 1) * (B : Int)) : A = B ∧ (A ≠ 0 → s = t) := by
  cases s <;> cases t <;> simp at h ⊢ <;> omega

theorem quo_P' {m e n f l c K : Nat} (hcc : c = 60) (hK : K = 1074) (hqn : quoN (m * 2 ^ e) (n * 2 ^ f) = 2 * (m * 2 ^ e * 2 ^ K / (n * 2 ^ f)) + if m * 2 ^ e * 2 ^ K % (n * 2 ^ f) = 0 then 0 else 1) (hn : n ≠ 0) (hl : (2 * (m * 2 ^ c / n) + if m * 2 ^ c % n = 0 then 0 else 1).log2 = l) (h54 : 54 < l) (hf : f ≤ e + 1013) :
    (quoN (m * 2 ^ e) (n * 2 ^ f)).log2 = l + (e + 1013 - f) + 1 ∧
    rndT 1 (quoN (m * 2 ^ e) (n * 2 ^ f)) = rhe ((2 * (m * 2 ^ c / n) + if m * 2 ^ c % n = 0 then 0 else 1) * 2 ^ (e + 1013 - f)) (2 ^ (l + (e + 1013 - f) - 52)) * 2 ^ (l + (e + 1013 - f) - 52) := by
  have hn' : 0 < n := Nat.pos_of_ne_zero hn
  have hD : 0 < n * 2 ^ f := Nat.mul_pos hn' (Nat.two_pow_pos _)
  obtain ⟨b, hb⟩ : ∃ b, b = e + 1013 - f := ⟨_, rfl⟩
  have hbe : b + 1 + f + c = e + K := by omega
  rw [← hb]
  clear hcc hK hb hf
  have h0' : m * 2 ^ c / n ≠ 0 := by
    intro h
    rw [h] at hl
    have hs := sticky_le (m * 2 ^ c % n = 0)
    generalize (if m * 2 ^ c % n = 0 then 0 else 1 : Nat) = σ at hl hs
    have : (2 * 0 + σ).log2 ≤ 0 := by
      rcases Nat.lt_or_eq_of_le hs with h | h
      · have : σ = 0 := by omega
        subst this; decide
      · subst h; decide
    omega
  rw [log2_sticky _ _ h0' (sticky_le _)] at hl
  have hEq : m * 2 ^ e * 2 ^ K * n * 2 ^ 0 = m * 2 ^ c * (n * 2 ^ f) * 2 ^ (b + 1) := by
    have hx : e + K = c + f + (b + 1) := by omega
    have : 2 ^ e * 2 ^ K = 2 ^ c * 2 ^ f * 2 ^ (b + 1) := by rw [← Nat.pow_add, ← Nat.pow_add, ← Nat.pow_add, hx]
    calc m * 2 ^ e * 2 ^ K * n * 2 ^ 0 = m * n * (2 ^ e * 2 ^ K) := by rw [Nat.pow_zero, Nat.mul_one]; ac_rfl
      _ = m * n * (2 ^ c * 2 ^ f * 2 ^ (b + 1)) := by rw [this]
      _ = m * 2 ^ c * (n * 2 ^ f) * 2 ^ (b + 1) := by ac_rfl
  have h0 : m * 2 ^ e * 2 ^ K / (n * 2 ^ f) ≠ 0 := by
    have h1 : n ≤ m * 2 ^ c := by
      refine Nat.le_of_not_lt fun hc => h0' (Nat.div_eq_of_lt hc)
    refine Nat.ne_of_gt ((Nat.le_div_iff_mul_le hD).2 ?_)
    have h2 : n * (n * 2 ^ f) * 2 ^ (b + 1) ≤ m * 2 ^ c * (n * 2 ^ f) * 2 ^ (b + 1) := Nat.mul_le_mul_right _ (Nat.mul_le_mul_right _ h1)
    rw [← hEq, Nat.pow_zero, Nat.mul_one] at h2
    have h3 : n * (n * 2 ^ f) * 1 ≤ n * (n * 2 ^ f) * 2 ^ (b + 1) := Nat.mul_le_mul_left _ (Nat.two_pow_pos _)
    have h4 : n * (n * 2 ^ f) ≤ n * (m * 2 ^ e * 2 ^ K) := by rw [Nat.mul_comm n (m * 2 ^ e * 2 ^ K)]; omega
    have h5 := Nat.le_of_mul_le_mul_left h4 hn'
    omega
  obtain ⟨r1, r2⟩ := ratio_same (m * 2 ^ e * 2 ^ K) (n * 2 ^ f) (m * 2 ^ c) n 0 (b + 1) hD hn' hEq h0 h0'
  have hlog : (quoN (m * 2 ^ e) (n * 2 ^ f)).log2 = l + b + 1 := by
    rw [hqn, log2_sticky _ _ h0 (sticky_le _)]
    omega
  refine ⟨hlog, ?_⟩
  rw [rndT_eq, lack_eq, hlog, show max (l + b + 1 - 52) 1 = l + b - 51 from by omega, show l + b - 51 - 1 = l + b - 52 from by omega, hqn]
  refine congrArg (· * 2 ^ (l + b - 52)) ?_
  rw [show l + b - 51 = (l + b - 52) + 1 from by omega, Nat.pow_succ', rhe_sticky _ _ _ hD (Nat.two_pow_pos _) (by rw [show l + b - 52 = (l + b - 53) + 1 from by omega, Nat.pow_succ]; omega)]
  rw [r2 (l + b - 52) (l - 53) (by omega)]
  rw [show l + b - 52 = b + (l - 52) from by omega, Nat.pow_add, Nat.mul_comm _ (2 ^ b), rhe_scale _ _ _ (Nat.two_pow_pos _) (Nat.two_pow_pos _)]
  rw [show l - 52 = (l - 53) + 1 from by omega, Nat.pow_succ', rhe_sticky _ _ _ hn' (Nat.two_pow_pos _) (by rw [show l - 53 = (l - 54) + 1 from by omega, Nat.pow_succ]; omega)]

/-- The quotient's digits by m * 2^60 / n. -/
def quoP (m n : Nat) : Nat := Nat.add (Nat.mul 2 (Nat.div (Nat.shiftLeft m 60) n)) (bif Nat.beq (Nat.mod (Nat.shiftLeft m 60) n) 0 then 0 else 1)

theorem quoP_is (m n : Nat) : ∃ c, c = 60 ∧ quoP m n = 2 * (m * 2 ^ c / n) + if m * 2 ^ c % n = 0 then 0 else 1 := by
  refine ⟨60, rfl, ?_⟩
  show 2 * ((m <<< 60) / n) + (bif Nat.beq ((m <<< 60) % n) 0 then 0 else 1) = _
  rw [Nat.shiftLeft_eq]
  generalize m * 2 ^ 60 = A
  congr 1
  by_cases h : A % n = 0
  · rw [if_pos h, h]; rfl
  · rw [if_neg h]
    cases hb : Nat.beq (A % n) 0
    · rfl
    · exact absurd (beq_nat hb) h

theorem quo_P {m e n f l : Nat} (hn : n ≠ 0) (hl : (quoP m n).log2 = l) (h54 : 54 < l) (hf : f ≤ e + 1013) :
    (quoN (m * 2 ^ e) (n * 2 ^ f)).log2 = l + (e + 1013 - f) + 1 ∧
    rndT 1 (quoN (m * 2 ^ e) (n * 2 ^ f)) = rhe (quoP m n * 2 ^ (e + 1013 - f)) (2 ^ (l + (e + 1013 - f) - 52)) * 2 ^ (l + (e + 1013 - f) - 52) := by
  obtain ⟨c, hc, hq⟩ := quoP_is m n
  rw [hq] at hl ⊢
  obtain ⟨K, hK, hqn⟩ := quoN_is (m * 2 ^ e) (n * 2 ^ f)
  exact quo_P' hc hK hqn hn hl h54 hf

theorem quoP_zero {m n : Nat} : quoP m n = 0 ↔ m = 0 := by
  obtain ⟨c, -, hq⟩ := quoP_is m n
  rw [hq]
  constructor
  · intro h0
    by_cases hmod : m * 2 ^ c % n = 0
    · rw [if_pos hmod] at h0
      have hd := Nat.div_add_mod (m * 2 ^ c) n
      rw [hmod, show m * 2 ^ c / n = 0 from by omega, Nat.mul_zero] at hd
      rcases Nat.mul_eq_zero.1 hd.symm with h | h
      · exact h
      · have := Nat.two_pow_pos c; omega
    · rw [if_neg hmod] at h0; omega
  · intro h
    rw [h, Nat.zero_mul, Nat.zero_div, Nat.zero_mod]; rfl

def divP {α : Type} (s : Bool) (m e : Nat) (t : Bool) (n f : Nat) (k : Bool → Nat → Nat → Option α) : Option α :=
  bif Nat.beq n 0 then none else
  wn (quoP m n) fun q =>
  bif Nat.beq q 0 then k (Bool.xor s t) 0 0 else
  lgK 61 q fun l => bif Nat.blt 54 l && (Nat.ble f (Nat.add e 1013) && (Nat.blt 70 (Nat.sub (Nat.add e 1013) f) && Nat.blt (Nat.add (Nat.sub (Nat.add e 1013) f) l) 2080)) then rnP q (Nat.sub (Nat.add e 1013) f) l fun m e => k (Bool.xor s t) m e else none

theorem divP_sound {α : Type} {x y : Nat} {s t : Bool} {m e n f : Nat} {k : Bool → Nat → Nat → Option α} {r : α} (hx : FV x (PV s m e)) (hy : FV y (PV t n f)) (h : divP s m e t n f k = some r) :
    ∃ z s' m' e', fdiv x y = some z ∧ FV z (PV s' m' e') ∧ k s' m' e' = some r := by
  unfold divP at h
  cases hn0 : Nat.beq n 0
  · have hn := beq_nat_false hn0
    rw [hn0, cond_false, wn_eq] at h
    obtain ⟨-, s1, m1, i1, rx, vx⟩ := hx
    obtain ⟨-, t1, n1, j1, ry, vy⟩ := hy
    have hi := (read_number rx).1
    have hj := (read_number ry).1
    rw [sv_signed] at vx vy
    obtain ⟨ax, sx⟩ := signed_inj vx
    obtain ⟨ay, sy⟩ := signed_inj vy
    have hn1 : n1 ≠ 0 := by
      intro h0
      rw [h0, Nat.zero_mul] at ay
      have := Nat.mul_pos (Nat.pos_of_ne_zero hn) (Nat.two_pow_pos f)
      omega
    have hm1 : m1 = 0 ↔ m = 0 := by
      constructor
      · intro h0
        rw [h0, Nat.zero_mul] at ax
        rcases Nat.mul_eq_zero.1 ax.symm with h | h
        · exact h
        · have := Nat.two_pow_pos e; omega
      · intro h0
        rw [h0, Nat.zero_mul] at ax
        rcases Nat.mul_eq_zero.1 ax with h | h
        · exact h
        · have := Nat.two_pow_pos (i1 + 1074).toNat; omega
    have ht : t1 = t := sy (by have := Nat.mul_pos (Nat.pos_of_ne_zero hn1) (Nat.two_pow_pos (j1 + 1074).toNat); omega)
    have hres : fdiv x y = some (double.nearest (s1 ^^ t1) (2 * ((m1 <<< (54 + n1.log2 - m1.log2)) / n1) + ((m1 <<< (54 + n1.log2 - m1.log2)) % n1 != 0).toNat) (i1 - j1 - (54 + n1.log2 - m1.log2 : Nat) - 1)) := by
      show ((double.read x).quotient (double.fractionBits + 2) (double.read y)).map double.write = _
      rw [rx, ry]
      show (if n1 = 0 then if m1 = 0 then none else some (Datum.infinity (s1 ^^ t1)) else _ : Option Datum).map double.write = _
      rw [if_neg hn1]
      rfl
    by_cases h0 : quoP m n = 0
    · rw [h0] at h
      have h' : k (Bool.xor s t) 0 0 = some r := h
      have hm : m = 0 := quoP_zero.1 h0
      have hm1' := hm1.2 hm
      refine ⟨_, _, 0, 0, hres, ?_, h'⟩
      rw [PV_zero, hm1']
      refine ⟨nearest_lt _ _ _, ?_⟩
      have e0 : ∀ a, 2 * ((0 <<< a) / n1) + ((0 <<< a) % n1 != 0).toNat = 0 := fun a => by
        rw [Nat.shiftLeft_eq, Nat.zero_mul, Nat.zero_div, Nat.zero_mod]; rfl
      rw [e0]
      obtain ⟨mm, ii, g1, g2, _, _, g5⟩ := read_rung (s1 ^^ t1) 0 0 (Nat.zero_le _) (Nat.zero_le _) (Or.inr (Eq.refl 0)) (by decide)
      refine ⟨s1 ^^ t1, mm, ii, ?_, ?_⟩
      · unfold Format.nearest; rw [if_pos rfl]; simpa using g1
      · rw [sv_signed, g5]; simp
    · have hb0 : Nat.beq (quoP m n) 0 = false := by
        cases hb : Nat.beq (quoP m n) 0
        · rfl
        · exact absurd (beq_nat hb) h0
      rw [hb0, cond_false, lgK_eq] at h
      obtain ⟨hc, h⟩ := bif_pos h
      rw [Bool.and_eq_true, Bool.and_eq_true, Bool.and_eq_true] at hc
      have c1 : 54 < (quoP m n).log2 := Nat.blt_eq ▸ hc.1
      have c2 : f ≤ e + 1013 := Nat.le_of_ble_eq_true hc.2.1
      have c3 : 70 < e + 1013 - f := Nat.blt_eq ▸ hc.2.2.1
      have c4 : e + 1013 - f + (quoP m n).log2 < 2080 := Nat.blt_eq ▸ hc.2.2.2
      obtain ⟨m', e', hk, hs, hm'⟩ := rnP_is rfl h
      obtain ⟨l, hl⟩ : ∃ l, l = (quoP m n).log2 := ⟨_, rfl⟩
      rw [← hl] at c1 c4 hs
      obtain ⟨q1, q2⟩ := quo_P hn hl.symm c1 c2
      have hs' : l + (e + 1013 - f) = e' + 52 := hs
      have hm : m ≠ 0 := fun hm => h0 (quoP_zero.2 hm)
      have hm1' : m1 ≠ 0 := fun h => hm (hm1.1 h)
      have hss : s1 = s := sx (by have := Nat.mul_pos (Nat.pos_of_ne_zero hm1') (Nat.two_pow_pos (i1 + 1074).toNat); omega)
      obtain ⟨mm, ii, g1, g2, g3⟩ := quo_read (s1 ^^ t1) m1 n1 i1 j1 hm1' hn1 hi hj _ _ rfl rfl (by rw [ax, ay, q1]; omega) (by rw [ax, ay, q1]; omega) (54 + n1.log2 - m1.log2) rfl
      rw [ax, ay, q2, show l + (e + 1013 - f) - 52 = e' from by omega] at g3
      refine ⟨_, s ^^ t, m', e', hres, ⟨nearest_lt _ _ _, s1 ^^ t1, mm, ii, g1, ?_⟩, hk⟩
      rw [sv_signed, g3, hss, ht, hm']
      rfl
  · rw [hn0] at h; cases h
end Go.Proofs.Ytgommnmmifgbgaa
end
