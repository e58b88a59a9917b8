/-
  Plain laws on floats: what a rounded number reads as, where it is exact; how two floats stand, by their values.
-/
import Derived.Laws.FloatArith
section
namespace Go.Proofs.YtnmbjalojgccmaaGreat
open Ieee
set_option exponentiation.threshold 3000
set_option linter.unusedSimpArgs false

/-- The value of a number in units of 2^-1074. -/
def sv (s : Bool) (m : Nat) (i : Int) : Int := signed s m (i + 1074).toNat

theorem signed_eq (s : Bool) (m k : Nat) : signed s m k = (if s then -1 else 1) * ((m : Int) * 2 ^ k) := by
  unfold signed
  cases s <;> simp [Nat.shiftLeft_eq]

theorem signed_up (s : Bool) (m k l : Nat) : signed s m (k + l) = signed s m k * 2 ^ l := by
  rw [signed_eq, signed_eq, Int.pow_add]; cases s <;> simp [Int.mul_assoc, Int.neg_mul]

theorem sv_from (s : Bool) (m : Nat) (i base : Int) (h0 : -1074 ≤ base) (h1 : base ≤ i) : sv s m i = signed s m (i - base).toNat * 2 ^ (base + 1074).toNat := by
  unfold sv
  rw [show (i + 1074).toNat = (i - base).toNat + (base + 1074).toNat from by omega, signed_up]

theorem two_pow_pos_int (k : Nat) : (0 : Int) < 2 ^ k := Int.pow_pos (by decide)

theorem cmp_scale (a b : Int) (k : Nat) : compare (a * 2 ^ k) (b * 2 ^ k) = compare a b := by
  have hk := two_pow_pos_int k
  rcases Int.lt_trichotomy a b with h | h | h
  · rw [Int.compare_eq_lt.2 h, Int.compare_eq_lt.2 (Int.mul_lt_mul_of_pos_right h hk)]
  · subst h; simp
  · rw [Int.compare_eq_gt.2 h, Int.compare_eq_gt.2 (Int.mul_lt_mul_of_pos_right h hk)]

theorem order_sv (s t : Bool) (m n : Nat) (i j : Int) (hi : -1074 ≤ i) (hj : -1074 ≤ j) : (Datum.number s m i).order (.number t n j) = some (compare (sv s m i) (sv t n j)) := by
  unfold Datum.order
  have hb : -1074 ≤ min i j := by omega
  rw [sv_from s m i (min i j) hb (by omega), sv_from t n j (min i j) hb (by omega), cmp_scale]

theorem sum_sv (s t : Bool) (m n : Nat) (i j : Int) (hi : -1074 ≤ i) (hj : -1074 ≤ j) : ∃ ns mg b, (Datum.number s m i).sum (.number t n j) = some (.number ns mg b) ∧ -1074 ≤ b ∧ sv ns mg b = sv s m i + sv t n j ∧ (mg = 0 → ns = (s && t)) := by
  refine ⟨_, _, _, rfl, by omega, ?_, ?_⟩
  · have hb : -1074 ≤ min i j := by omega
    rw [sv_from s m i (min i j) hb (by omega), sv_from t n j (min i j) hb (by omega), sv_from _ _ (min i j) (min i j) hb (by omega), ← Int.add_mul]
    congr 1
    rw [Int.sub_self]
    generalize signed s m (i - min i j).toNat + signed t n (j - min i j).toNat = T
    show signed _ _ 0 = T
    rw [signed_eq]
    by_cases h0 : T = 0
    · subst h0; simp
    · by_cases h1 : T < 0 <;> simp [h0, h1] <;> omega
  · intro h
    have : signed s m (i - min i j).toNat + signed t n (j - min i j).toNat = 0 := by omega
    simp [this]

/-- A rung and what it reads as. -/
theorem read_rung (neg : Bool) (a kept : Nat) (ha : a ≤ 2045) (hk : kept ≤ 9007199254740992) (h : 4503599627370496 ≤ kept ∨ a = 0) (hr : a * 4503599627370496 + kept < 2047 * 4503599627370496) :
    ∃ m i, double.read (double.word neg (a * 4503599627370496 + kept)) = .number neg m i ∧ -1074 ≤ i ∧ i ≤ 971 ∧ m < 9007199254740992 ∧ m * 2 ^ (i + 1074).toNat = kept * 2 ^ a := by
  have e1 : double.signWeight = 9223372036854775808 := by decide
  have e2 : double.binade = 4503599627370496 := by decide
  have e3 : double.infRung = 2047 * 4503599627370496 := by decide
  have e4 : double.leastPlace = -1074 := by decide
  have hneg : ((double.word neg (a * 4503599627370496 + kept)) / 9223372036854775808 % 2 == 1) = neg := by
    unfold Format.word
    rw [e1]
    cases neg
    · simp; omega
    · simp; omega
  have hrung : (double.word neg (a * 4503599627370496 + kept)) % 9223372036854775808 = a * 4503599627370496 + kept := by
    unfold Format.word
    rw [e1]
    cases neg
    · simp; omega
    · simp; omega
  unfold Format.read
  rw [e1, e2, e3, e4, hneg, hrung]
  by_cases h1 : a * 4503599627370496 + kept < 4503599627370496
  · have : a = 0 := by omega
    subst this
    refine ⟨kept, -1074, ?_, by omega, by omega, by omega, by simp⟩
    rw [if_pos h1]; simp
  · rw [if_neg h1, if_pos hr]
    by_cases h2 : kept = 9007199254740992
    · subst h2
      refine ⟨4503599627370496, (a : Int) + 1 - 1074, ?_, by omega, by omega, by omega, ?_⟩
      · have f1 : (a * 4503599627370496 + 9007199254740992) % 4503599627370496 = 0 := by omega
        have f2 : (a * 4503599627370496 + 9007199254740992) / 4503599627370496 = a + 2 := by omega
        rw [f1, f2]
        have f3 : (-1074 : Int) + ((a + 2 - 1 : Nat) : Int) = (a : Int) + 1 - 1074 := by omega
        rw [f3]
      · rw [show ((a : Int) + 1 - 1074 + 1074).toNat = a + 1 from by omega, Nat.pow_succ]; omega
    · have f1 : (a * 4503599627370496 + kept) % 4503599627370496 = kept - 4503599627370496 := by omega
      have f2 : (a * 4503599627370496 + kept) / 4503599627370496 = a + 1 := by omega
      refine ⟨kept, (a : Int) - 1074, ?_, by omega, by omega, by omega, ?_⟩
      · have f3 : (-1074 : Int) + ((a + 1 - 1 : Nat) : Int) = (a : Int) - 1074 := by omega
        have f4 : 4503599627370496 + (kept - 4503599627370496) = kept := by omega
        rw [f1, f2, f3, f4]
      · rw [show ((a : Int) - 1074 + 1074).toNat = a from by omega]

theorem cut_exact (neg : Bool) (K d : Nat) (hK : 0 < K) : Toward.even.cut neg (K * 2 ^ d) d = K := by
  have hl : d ≤ (K * 2 ^ d).log2 + 2 := by
    have : d ≤ (K * 2 ^ d).log2 := (Nat.le_log2 (by have := Nat.two_pow_pos d; exact Nat.ne_of_gt (Nat.mul_pos hK this))).2 (Nat.le_mul_of_pos_left _ hK)
    omega
  unfold Toward.cut
  rw [Nat.min_eq_left hl, Nat.one_shiftLeft]
  have h1 : K * 2 ^ d / 2 ^ d = K := Nat.mul_div_cancel _ (Nat.two_pow_pos d)
  have h2 : K * 2 ^ d % 2 ^ d = 0 := Nat.mul_mod_left _ _
  simp only [h1, h2]
  have := Nat.two_pow_pos d
  simp

theorem log2_pow_mul (m k : Nat) (h : 0 < m) : (m * 2 ^ k).log2 = m.log2 + k := by
  have h0 : m * 2 ^ k ≠ 0 := Nat.ne_of_gt (Nat.mul_pos h (Nat.two_pow_pos k))
  refine (Nat.log2_eq_iff h0).2 ⟨?_, ?_⟩
  · rw [Nat.pow_add]; exact Nat.mul_le_mul_right _ (Nat.log2_self_le (Nat.ne_of_gt h))
  · rw [show m.log2 + k + 1 = (m.log2 + 1) + k from by omega, Nat.pow_add]; exact Nat.mul_lt_mul_of_pos_right Nat.lt_log2_self (Nat.two_pow_pos k)

/-- A number that a word has is written as that word. -/
theorem nearest_exact (neg : Bool) (mag : Nat) (place : Int) (K a : Nat) (hp : -1074 ≤ place) (h : mag * 2 ^ (place + 1074).toNat = K * 2 ^ a) (hK : 4503599627370496 ≤ K) (hK2 : K < 9007199254740992) (ha : a ≤ 2045) :
    double.nearest neg mag place = double.word neg (a * 4503599627370496 + K) := by
  have e2 : double.binade = 4503599627370496 := by decide
  have e3 : double.infRung = 2047 * 4503599627370496 := by decide
  have e4 : double.leastPlace = -1074 := by decide
  have hm : 0 < mag := by
    rcases Nat.eq_zero_or_pos mag with h0 | h0
    · subst h0
      have := Nat.two_pow_pos a
      have := Nat.mul_pos (show 0 < K by omega) this
      omega
    · exact h0
  have hlK : K.log2 = 52 := (Nat.log2_eq_iff (by omega)).2 ⟨by omega, by omega⟩
  have hlog : mag.log2 + (place + 1074).toNat = 52 + a := by
    rw [← log2_pow_mul mag _ hm, h, log2_pow_mul K _ (by omega), hlK]
  unfold Format.nearest
  rw [if_neg (by omega), e2, e3, e4]
  have hlast : max (place + (mag.log2 : Int) - (double.fractionBits : Int)) (-1074) = (a : Int) - 1074 := by
    have : (double.fractionBits : Int) = 52 := rfl
    rw [this]; omega
  simp only [hlast]
  have hkept : Toward.even.cut neg (mag <<< (place - ((a : Int) - 1074)).toNat) (((a : Int) - 1074) - place).toNat = K := by
    by_cases hc : place ≤ (a : Int) - 1074
    · rw [show (place - ((a : Int) - 1074)).toNat = 0 from by omega, Nat.shiftLeft_zero]
      have hmk : mag = K * 2 ^ (((a : Int) - 1074) - place).toNat := by
        have : a = (((a : Int) - 1074) - place).toNat + (place + 1074).toNat := by omega
        rw [this, Nat.pow_add, ← Nat.mul_assoc] at h
        have h' := Nat.eq_of_mul_eq_mul_right (Nat.two_pow_pos _) h
        have e : ((((a : Int) - 1074) - place).toNat + (place + 1074).toNat) = a := by omega
        simpa [e] using h'
      rw [hmk]
      exact cut_exact neg K _ (by omega)
    · rw [show (((a : Int) - 1074) - place).toNat = 0 from by omega, Nat.shiftLeft_eq]
      have hmk : mag * 2 ^ (place - ((a : Int) - 1074)).toNat = K := by
        have : (place + 1074).toNat = (place - ((a : Int) - 1074)).toNat + a := by omega
        rw [this, Nat.pow_add, ← Nat.mul_assoc] at h
        exact Nat.eq_of_mul_eq_mul_right (Nat.two_pow_pos _) h
      rw [hmk]
      have := cut_exact neg K 0 (by omega)
      simpa using this
  rw [hkept, show ((a : Int) - 1074 - -1074).toNat = a from by omega, Nat.min_eq_left (by omega)]

/-- .. and reads as that number. -/
theorem nearest_read_exact (neg : Bool) (mag : Nat) (place : Int) (K a : Nat) (hp : -1074 ≤ place) (h : mag * 2 ^ (place + 1074).toNat = K * 2 ^ a) (hK : 4503599627370496 ≤ K) (hK2 : K < 9007199254740992) (ha : a ≤ 2045) :
    ∃ m i, double.read (double.nearest neg mag place) = .number neg m i ∧ -1074 ≤ i ∧ sv neg m i = sv neg mag place := by
  rw [nearest_exact neg mag place K a hp h hK hK2 ha]
  obtain ⟨m, i, h1, h2, _, _, h5⟩ := read_rung neg a K ha (by omega) (.inl hK) (by omega)
  refine ⟨m, i, h1, h2, ?_⟩
  unfold sv
  rw [signed_eq, signed_eq]
  congr 1
  have h6 : m * 2 ^ (i + 1074).toNat = mag * 2 ^ (place + 1074).toNat := by rw [h5, h]
  have h7 := congrArg (Nat.cast : Nat → Int) h6
  rw [Int.natCast_mul, Int.natCast_mul, Int.natCast_pow, Int.natCast_pow] at h7
  exact h7

/-- A whole number below 2^53 is exact. -/
theorem nearest_whole (neg : Bool) (mag : Nat) (place : Int) (N c : Nat) (hp : -1074 ≤ place) (h : mag * 2 ^ (place + 1074).toNat = N * 2 ^ c) (hc : c = 1074) (hN : N < 9007199254740992) :
    ∃ m i, double.read (double.nearest neg mag place) = .number neg m i ∧ -1074 ≤ i ∧ sv neg m i = sv neg mag place := by
  by_cases h0 : N = 0
  · have hm : mag = 0 := by
      rw [h0, Nat.zero_mul] at h
      rcases Nat.mul_eq_zero.1 h with h | h
      · exact h
      · exact absurd h (Nat.ne_of_gt (Nat.two_pow_pos _))
    subst hm
    obtain ⟨m, i, h1, h2, _, _, h5⟩ := read_rung neg 0 0 (Nat.zero_le _) (Nat.zero_le _) (Or.inr (Eq.refl 0)) (by decide)
    refine ⟨m, i, ?_, h2, ?_⟩
    · unfold Format.nearest; rw [if_pos rfl]; simpa using h1
    · have : m = 0 := by
        rw [Nat.zero_mul] at h5
        rcases Nat.mul_eq_zero.1 h5 with h | h
        · exact h
        · exact absurd h (Nat.ne_of_gt (Nat.two_pow_pos _))
      subst this
      unfold sv
      rw [signed_eq, signed_eq]; simp
  · have hl : N.log2 ≤ 52 := by
      have : N.log2 < 53 := (Nat.log2_lt h0).2 (by omega)
      omega
    have hp1 : 2 ^ N.log2 ≤ N := Nat.log2_self_le h0
    have hp2 : N < 2 ^ (N.log2 + 1) := Nat.lt_log2_self
    have q1 : (2 : Nat) ^ 52 = 4503599627370496 := by decide
    refine nearest_read_exact neg mag place (N * 2 ^ (52 - N.log2)) (1074 + N.log2 - 52) hp ?_ ?_ ?_ (by omega)
    · rw [h, Nat.mul_assoc, ← Nat.pow_add]; congr 2; omega
    · rw [← q1, show 52 = N.log2 + (52 - N.log2) from by omega, Nat.pow_add]
      have e : N.log2 + (52 - N.log2) - N.log2 = 52 - N.log2 := by omega
      rw [e]
      exact Nat.mul_le_mul_right _ hp1
    · have e : 9007199254740992 = 2 ^ (N.log2 + 1) * 2 ^ (52 - N.log2) := by
        rw [← Nat.pow_add, show N.log2 + 1 + (52 - N.log2) = 53 from by omega]
      rw [e]
      exact Nat.mul_lt_mul_of_pos_right hp2 (Nat.two_pow_pos _)

/-- What is written is no NaN. -/
theorem nearest_no_nan (neg : Bool) (mag : Nat) (place : Int) : (∃ s m i, double.read (double.nearest neg mag place) = .number s m i ∧ -1074 ≤ i) ∨ ∃ s, double.read (double.nearest neg mag place) = .infinity s := by
  have e1 : double.signWeight = 9223372036854775808 := by decide
  have e2 : double.binade = 4503599627370496 := by decide
  have e3 : double.infRung = 2047 * 4503599627370496 := by decide
  have e4 : double.leastPlace = -1074 := by decide
  obtain ⟨r, hr, hle⟩ : ∃ r, double.nearest neg mag place = double.word neg r ∧ r ≤ 2047 * 4503599627370496 := by
    unfold Format.nearest
    split
    · exact ⟨0, rfl, by omega⟩
    · exact ⟨_, rfl, by rw [e3]; exact Nat.min_le_right _ _⟩
  rw [hr]
  have hrung : (double.word neg r) % 9223372036854775808 = r := by
    unfold Format.word
    rw [e1]
    cases neg
    · simp; omega
    · simp; omega
  unfold Format.read
  rw [e1, e2, e3, e4, hrung]
  dsimp only
  split
  · exact .inl ⟨_, _, _, rfl, by omega⟩
  · split
    · exact .inl ⟨_, _, _, rfl, by omega⟩
    · rw [if_pos (by omega)]; exact .inr ⟨_, rfl⟩

/-- What a word that is a number reads as. -/
theorem read_number {b : Nat} {s : Bool} {m : Nat} {i : Int} (h : double.read b = .number s m i) : -1074 ≤ i ∧ i ≤ 971 ∧ m < 9007199254740992 := by
  have e1 : double.signWeight = 9223372036854775808 := by decide
  have e2 : double.binade = 4503599627370496 := by decide
  have e3 : double.infRung = 2047 * 4503599627370496 := by decide
  have e4 : double.leastPlace = -1074 := by decide
  unfold Format.read at h
  rw [e1, e2, e3, e4] at h
  dsimp only at h
  split at h
  · cases h; omega
  · split at h
    · cases h; omega
    · split at h <;> cases h
end Go.Proofs.YtnmbjalojgccmaaGreat
end
/-
  Whole numbers below 2^53 as floats: sums, products and comparisons of them are those of the numbers; a float that is equal to one has its bits.
-/
section
namespace Go.Proofs.YtnmbjalojgccmaaGreat
open Ieee
set_option exponentiation.threshold 3000

/-- A whole number as a float. -/
def nf (n : Nat) : Nat := floatOfInt .f64 (n : Int)

theorem nf_eq (n : Nat) : nf n = double.nearest false n 0 := by
  unfold nf floatOfInt FloatKind.nearest FloatKind.encode FloatKind.format Format.write
  have h : ¬ ((n : Int) < 0) := by omega
  simp [h]

theorem sv_nat (n : Nat) : sv false n 0 = (n : Int) * 2 ^ 1074 := by
  unfold sv; rw [signed_eq]; simp

theorem nf_read (n : Nat) (hn : n < 9007199254740992) : ∃ m i, double.read (nf n) = .number false m i ∧ -1074 ≤ i ∧ sv false m i = (n : Int) * 2 ^ 1074 := by
  obtain ⟨m, i, h1, h2, h3⟩ := nearest_whole false n 0 n 1074 (by omega) (by simp) rfl hn
  exact ⟨m, i, by rw [nf_eq]; exact h1, h2, by rw [h3, sv_nat]⟩

theorem sv_false (m : Nat) (i : Int) : sv false m i = ((m * 2 ^ (i + 1074).toNat : Nat) : Int) := by
  unfold sv; rw [signed_eq]; simp

/-- Where the value is that of a whole number, the word is that number's. -/
theorem nearest_nf (mag : Nat) (place : Int) (N : Nat) (hp : -1074 ≤ place) (h : mag * 2 ^ (place + 1074).toNat = N * 2 ^ 1074) (hN : N < 9007199254740992) : double.nearest false mag place = nf N := by
  rw [nf_eq]
  by_cases h0 : N = 0
  · subst h0
    have hm : mag = 0 := by
      rw [Nat.zero_mul] at h
      rcases Nat.mul_eq_zero.1 h with h | h
      · exact h
      · exact absurd h (Nat.ne_of_gt (Nat.two_pow_pos _))
    subst hm
    unfold Format.nearest; simp
  · have hl : N.log2 ≤ 52 := by
      have : N.log2 < 53 := (Nat.log2_lt h0).2 (by omega)
      omega
    have hp1 : 2 ^ N.log2 ≤ N := Nat.log2_self_le h0
    have hp2 : N < 2 ^ (N.log2 + 1) := Nat.lt_log2_self
    have q1 : (2 : Nat) ^ 52 = 4503599627370496 := by decide
    have hK : 4503599627370496 ≤ N * 2 ^ (52 - N.log2) := by
      rw [← q1, show 52 = N.log2 + (52 - N.log2) from by omega, Nat.pow_add]
      have e : N.log2 + (52 - N.log2) - N.log2 = 52 - N.log2 := by omega
      rw [e]
      exact Nat.mul_le_mul_right _ hp1
    have hK2 : N * 2 ^ (52 - N.log2) < 9007199254740992 := by
      have e : 9007199254740992 = 2 ^ (N.log2 + 1) * 2 ^ (52 - N.log2) := by
        rw [← Nat.pow_add, show N.log2 + 1 + (52 - N.log2) = 53 from by omega]
      rw [e]
      exact Nat.mul_lt_mul_of_pos_right hp2 (Nat.two_pow_pos _)
    have hv : N * 2 ^ 1074 = N * 2 ^ (52 - N.log2) * 2 ^ (1074 + N.log2 - 52) := by rw [Nat.mul_assoc, ← Nat.pow_add]; congr 2; omega
    rw [nearest_exact false mag place _ (1074 + N.log2 - 52) hp (by rw [h, hv]) hK hK2 (by omega), nearest_exact false N 0 _ (1074 + N.log2 - 52) (by omega) (by rw [← hv]; rfl) hK hK2 (by omega)]

theorem pow1074_pos : (0 : Int) < 2 ^ 1074 := Int.pow_pos (by decide)

theorem nf_add (a b : Nat) (h : a + b < 9007199254740992) : floatBits .add .f64 (nf a) (nf b) = some (nf (a + b)) := by
  obtain ⟨m, i, h1, h2, h3⟩ := nf_read a (by omega)
  obtain ⟨n, j, k1, k2, k3⟩ := nf_read b (by omega)
  show ((double.read (nf a)).sum (double.read (nf b))).map double.write = _
  rw [h1, k1]
  obtain ⟨ns, mg, q, hs, hq, hv, hz⟩ := sum_sv false false m n i j h2 k2
  rw [hs, Option.map_some]
  congr 1
  have hval : sv ns mg q = ((a + b : Nat) : Int) * 2 ^ 1074 := by rw [hv, h3, k3, ← Int.add_mul]; congr 1
  have hns : ns = false := by
    cases ns with
    | false => rfl
    | true =>
      by_cases hm : mg = 0
      · exact hz hm
      · exfalso
        unfold sv at hval
        rw [signed_eq] at hval
        have p1 : (0 : Int) < (mg : Int) * 2 ^ (q + 1074).toNat := Int.mul_pos (by omega) (two_pow_pos_int _)
        have p2 : (0 : Int) ≤ ((a + b : Nat) : Int) * 2 ^ 1074 := Int.mul_nonneg (by omega) (Int.le_of_lt pow1074_pos)
        simp at hval
        omega
  subst hns
  show double.nearest false mg q = _
  refine nearest_nf mg q (a + b) hq ?_ h
  rw [sv_false] at hval
  have : ((mg * 2 ^ (q + 1074).toNat : Nat) : Int) = (((a + b) * 2 ^ 1074 : Nat) : Int) := by rw [hval, Int.natCast_mul, Int.natCast_pow]; rfl
  exact Int.ofNat.inj this

theorem nf_order (a b : Nat) (ha : a < 9007199254740992) (hb : b < 9007199254740992) : FloatKind.f64.format.order (nf a) (nf b) = some (compare a b) := by
  obtain ⟨m, i, h1, h2, h3⟩ := nf_read a ha
  obtain ⟨n, j, k1, k2, k3⟩ := nf_read b hb
  show (double.read (nf a)).order (double.read (nf b)) = _
  rw [h1, k1, order_sv _ _ _ _ _ _ h2 k2, h3, k3, cmp_scale]
  congr 1
  rcases Nat.lt_trichotomy a b with h | h | h
  · rw [Nat.compare_eq_lt.2 h, Int.compare_eq_lt.2 (by omega)]
  · subst h; simp
  · rw [Nat.compare_eq_gt.2 h, Int.compare_eq_gt.2 (by omega)]

/-- The place of a whole number's last digit. -/
theorem nf_place (n : Nat) (h0 : 0 < n) (hn : n < 9007199254740992) {m : Nat} {i : Int} (h : double.read (nf n) = .number false m i) : -53 < i := by
  obtain ⟨m', i', h1, h2, h3⟩ := nf_read n hn
  rw [h] at h1
  cases h1
  obtain ⟨_, _, hm⟩ := read_number h
  rw [sv_false] at h3
  have e : m * 2 ^ (i + 1074).toNat = n * 2 ^ 1074 := by
    have : ((m * 2 ^ (i + 1074).toNat : Nat) : Int) = ((n * 2 ^ 1074 : Nat) : Int) := by rw [h3, Int.natCast_mul, Int.natCast_pow]; rfl
    exact Int.ofNat.inj this
  by_cases hi : -53 < i
  · exact hi
  · exfalso
    have hle : (i + 1074).toNat ≤ 1021 := by omega
    have q1 : (2 : Nat) ^ (i + 1074).toNat ≤ 2 ^ 1021 := Nat.pow_le_pow_right (by decide) hle
    have q2 : m * 2 ^ (i + 1074).toNat ≤ 9007199254740991 * 2 ^ 1021 := Nat.mul_le_mul (by omega) q1
    have q3 : 1 * 2 ^ 1074 ≤ n * 2 ^ 1074 := Nat.mul_le_mul_right _ h0
    have q4 : (9007199254740991 : Nat) * 2 ^ 1021 < 1 * 2 ^ 1074 := by decide +kernel
    omega

theorem nf_mul (a b : Nat) (ha : 0 < a) (hb : 0 < b) (h : a * b < 9007199254740992) : floatBits .mul .f64 (nf a) (nf b) = some (nf (a * b)) := by
  have ha2 : a < 9007199254740992 := Nat.lt_of_le_of_lt (Nat.le_mul_of_pos_right a hb) h
  have hb2 : b < 9007199254740992 := Nat.lt_of_le_of_lt (Nat.le_mul_of_pos_left b ha) h
  obtain ⟨m, i, h1, h2, h3⟩ := nf_read a ha2
  obtain ⟨n, j, k1, k2, k3⟩ := nf_read b hb2
  have p1 := nf_place a ha ha2 h1
  have p2 := nf_place b hb hb2 k1
  show ((double.read (nf a)).product (double.read (nf b))).map double.write = _
  rw [h1, k1]
  show some (double.nearest _ (m * n) (i + j)) = _
  congr 1
  refine nearest_nf (m * n) (i + j) (a * b) (by omega) ?_ h
  rw [sv_false] at h3 k3
  have e1 : m * 2 ^ (i + 1074).toNat = a * 2 ^ 1074 := by
    have : ((m * 2 ^ (i + 1074).toNat : Nat) : Int) = ((a * 2 ^ 1074 : Nat) : Int) := by rw [h3, Int.natCast_mul, Int.natCast_pow]; rfl
    exact Int.ofNat.inj this
  have e2 : n * 2 ^ (j + 1074).toNat = b * 2 ^ 1074 := by
    have : ((n * 2 ^ (j + 1074).toNat : Nat) : Int) = ((b * 2 ^ 1074 : Nat) : Int) := by rw [k3, Int.natCast_mul, Int.natCast_pow]; rfl
    exact Int.ofNat.inj this
  have e3 : (i + 1074).toNat + (j + 1074).toNat = (i + j + 1074).toNat + 1074 := by omega
  refine Nat.eq_of_mul_eq_mul_right (Nat.two_pow_pos 1074) ?_
  calc m * n * 2 ^ (i + j + 1074).toNat * 2 ^ 1074 = m * n * (2 ^ (i + 1074).toNat * 2 ^ (j + 1074).toNat) := by rw [Nat.mul_assoc (m * n), ← Nat.pow_add, ← Nat.pow_add, e3]
    _ = (m * 2 ^ (i + 1074).toNat) * (n * 2 ^ (j + 1074).toNat) := by ac_rfl
    _ = (a * 2 ^ 1074) * (b * 2 ^ 1074) := by rw [e1, e2]
    _ = a * b * 2 ^ 1074 * 2 ^ 1074 := by ac_rfl

theorem nf_zero : nf 0 = 0 := by decide +kernel
theorem nf_one : nf 1 = 4607182418800017408 := by decide +kernel
theorem nf_thousand : nf 1000 = 4652007308841189376 := by decide +kernel
theorem nf_hundred : nf 100 = 4636737291354636288 := by decide +kernel

theorem nf_lt (n : Nat) : nf n < 18446744073709551616 := by
  have h := floatOfInt_wf .f64 (n : Int)
  simpa [Lit.wf, nf] using h

/-- A word that reads as a number above nought with all its digits is that number's word. -/
theorem read_back {c m : Nat} {i : Int} (hc : c < 18446744073709551616) (h : double.read c = .number false m i) (hm : 4503599627370496 ≤ m) : c = double.nearest false m i := by
  have hr := read_number h
  have e1 : double.signWeight = 9223372036854775808 := by decide
  have e2 : double.binade = 4503599627370496 := by decide
  have e3 : double.infRung = 2047 * 4503599627370496 := by decide
  have e4 : double.leastPlace = -1074 := by decide
  unfold Format.read at h
  rw [e1, e2, e3, e4] at h
  dsimp only at h
  split at h
  · injection h with _ h2 _; omega
  · rename_i hg
    split at h
    · rename_i hlt
      injection h with h1 h2 h3
      have hneg : ¬ (c / 9223372036854775808 % 2 = 1) := by simpa using h1
      have hc2 : c % 9223372036854775808 = c := by omega
      rw [hc2] at h2 h3 hg hlt
      rw [nearest_exact false m i m (i + 1074).toNat (by omega) rfl hm (by omega) (by omega)]
      unfold Format.word
      simp only [Bool.false_eq_true, if_false]
      omega
    · split at h <;> cases h

/-- A float that is equal to a whole number above nought has its bits. -/
theorem eq_nf {c n : Nat} (hc : c < 18446744073709551616) (h0 : 0 < n) (hn : n < 9007199254740992) (h : FloatKind.f64.format.order c (nf n) = some .eq) : c = nf n := by
  obtain ⟨m, i, h1, h2, h3⟩ := nf_read n hn
  have h' : (double.read c).order (double.read (nf n)) = some .eq := h
  rw [h1] at h'
  cases hr : double.read c with
  | nan s t => rw [hr] at h'; cases h'
  | infinity s => rw [hr] at h'; cases s <;> simp [Datum.order] at h'
  | number s q j =>
    rw [hr] at h'
    obtain ⟨g1, g2, g3⟩ := read_number hr
    rw [order_sv _ _ _ _ _ _ g1 h2, h3] at h'
    have hv : sv s q j = (n : Int) * 2 ^ 1074 := by simpa using h'
    have hpos : (0 : Int) < (n : Int) * 2 ^ 1074 := Int.mul_pos (by omega) pow1074_pos
    have hs : s = false := by
      cases s with
      | false => rfl
      | true =>
        exfalso
        unfold sv at hv
        rw [signed_eq] at hv
        have p1 : (0 : Int) ≤ (q : Int) * 2 ^ (j + 1074).toNat := Int.mul_nonneg (by omega) (Int.le_of_lt (two_pow_pos_int _))
        simp at hv
        omega
    subst hs
    rw [sv_false] at hv
    have e : q * 2 ^ (j + 1074).toNat = n * 2 ^ 1074 := by
      have : ((q * 2 ^ (j + 1074).toNat : Nat) : Int) = ((n * 2 ^ 1074 : Nat) : Int) := by rw [hv, Int.natCast_mul, Int.natCast_pow]; rfl
      exact Int.ofNat.inj this
    have hq : 4503599627370496 ≤ q := by
      by_cases hq : 4503599627370496 ≤ q
      · exact hq
      · exfalso
        have e1 : double.signWeight = 9223372036854775808 := by decide
        have e2 : double.binade = 4503599627370496 := by decide
        have e3 : double.infRung = 2047 * 4503599627370496 := by decide
        have e4 : double.leastPlace = -1074 := by decide
        have hj : j = -1074 := by
          unfold Format.read at hr
          rw [e1, e2, e3, e4] at hr
          dsimp only at hr
          split at hr
          · injection hr with _ _ h3; exact h3.symm
          · split at hr
            · injection hr with _ h2 _; omega
            · split at hr <;> cases hr
        subst hj
        have q3 : 1 * 2 ^ 1074 ≤ n * 2 ^ 1074 := Nat.mul_le_mul_right _ h0
        have q4 : (4503599627370496 : Nat) < 1 * 2 ^ 1074 := by decide +kernel
        simp at e
        omega
    rw [read_back hc hr hq]
    exact nearest_nf q j n g1 e hn
end Go.Proofs.YtnmbjalojgccmaaGreat
end
