/-
  Floats above nought, nearly: a sum, a product, a quotient is within a part of 2^53 (2^51) of the exact one. No program in sight.
-/
import Derived.Test.YtnmbjalojgccmaaGreatQB
import Derived.Test.YtnmbjalojgccmaaGreatQD
section
namespace Go.Proofs.YtnmbjalojgccmaaGreat
open Ieee
set_option exponentiation.threshold 5000

/-- A float above nought, by its value in units of 2^-1074. -/
def Is (x V : Nat) : Prop := ∃ m i, double.read x = .number false m i ∧ -1074 ≤ i ∧ m * 2 ^ (i + 1074).toNat = V

theorem Is.nf {n : Nat} (hn : n < 9007199254740992) : Is (nf n) (n * 2 ^ 1074) := by
  obtain ⟨m, i, h1, h2, h3⟩ := nf_read n hn
  refine ⟨m, i, h1, h2, ?_⟩
  rw [sv_false] at h3
  have : ((m * 2 ^ (i + 1074).toNat : Nat) : Int) = ((n * 2 ^ 1074 : Nat) : Int) := by rw [h3, Int.natCast_mul, Int.natCast_pow]; rfl
  exact Int.ofNat.inj this

theorem cut_near (neg : Bool) (n D : Nat) (h : D ≤ n.log2 + 2) : 2 * (Toward.even.cut neg n D * 2 ^ D) ≤ 2 * n + 2 ^ D ∧ 2 * n ≤ 2 * (Toward.even.cut neg n D * 2 ^ D) + 2 ^ D := by
  unfold Toward.cut
  rw [Nat.min_eq_left h, Nat.one_shiftLeft]
  have hp := Nat.two_pow_pos D
  have hdm := Nat.div_add_mod n (2 ^ D)
  have hlt := Nat.mod_lt n hp
  simp only []
  generalize n / 2 ^ D = q at *
  generalize n % 2 ^ D = r at *
  generalize 2 ^ D = P at *
  have hc : (q + (decide (P < 2 * r) || (P == 2 * r && q % 2 == 1)).toNat) * P = q * P + (decide (P < 2 * r) || (P == 2 * r && q % 2 == 1)).toNat * P := Nat.add_mul _ _ _
  rw [hc]
  have hqp : P * q = q * P := Nat.mul_comm _ _
  cases hb : (decide (P < 2 * r) || (P == 2 * r && q % 2 == 1))
  · simp only [Bool.toNat_false, Nat.zero_mul, Nat.add_zero]
    have : ¬ P < 2 * r := by
      intro h
      rw [decide_eq_true h, Bool.true_or] at hb
      cases hb
    omega
  · simp only [Bool.toNat_true, Nat.one_mul]
    have : P ≤ 2 * r := by
      rcases Bool.or_eq_true _ _ ▸ hb with h | h
      · have := of_decide_eq_true h; omega
      · have := (Bool.and_eq_true _ _ ▸ h).1
        have := eq_of_beq this
        omega
    omega

theorem keep_range (n D k : Nat) (c1 : 2 * (k * 2 ^ D) ≤ 2 * n + 2 ^ D) (c2 : 2 * n ≤ 2 * (k * 2 ^ D) + 2 ^ D) (q1 : 2 ^ (52 + D) ≤ n) (q2 : n < 2 ^ (52 + D + 1)) : 4503599627370496 ≤ k ∧ k ≤ 9007199254740992 := by
  rw [Nat.pow_add] at q1
  rw [show 52 + D + 1 = 53 + D from by omega, Nat.pow_add] at q2
  have hP := Nat.two_pow_pos D
  revert c1 c2 q1 q2 hP
  generalize 2 ^ D = P
  intro c1 c2 q1 q2 hP
  have r1 : (2 : Nat) ^ 52 = 4503599627370496 := by decide
  have r2 : (2 : Nat) ^ 53 = 9007199254740992 := by decide
  rw [r1] at q1
  rw [r2] at q2
  obtain ⟨X, hX⟩ : ∃ X, X = 4503599627370496 := ⟨_, rfl⟩
  obtain ⟨Y, hY⟩ : ∃ Y, Y = 9007199254740992 := ⟨_, rfl⟩
  rw [← hX] at q1 ⊢
  rw [← hY] at q2 ⊢
  clear hX hY r1 r2
  constructor
  · refine Nat.le_of_not_lt fun h => ?_
    have h2 : (k + 1) * P ≤ X * P := Nat.mul_le_mul_right P h
    rw [Nat.add_mul, Nat.one_mul] at h2
    omega
  · refine Nat.le_of_not_lt fun h => ?_
    have h2 : (Y + 1) * P ≤ k * P := Nat.mul_le_mul_right P h
    rw [Nat.add_mul, Nat.one_mul] at h2
    omega

/-- What is written reads within a part of 2^53, where it has all its digits and does not overflow. -/
theorem nearest_near (mag : Nat) (place : Int) (hp : -1074 ≤ place) (hlo : 2 ^ 60 ≤ mag * 2 ^ (place + 1074).toNat) (hhi : mag * 2 ^ (place + 1074).toNat < 2 ^ 2000) :
    ∃ Z, Is (double.nearest false mag place) Z ∧ 2 ^ 53 * Z ≤ 2 ^ 53 * (mag * 2 ^ (place + 1074).toNat) + mag * 2 ^ (place + 1074).toNat ∧ 2 ^ 53 * (mag * 2 ^ (place + 1074).toNat) ≤ 2 ^ 53 * Z + mag * 2 ^ (place + 1074).toNat := by
  have e2 : double.binade = 4503599627370496 := by decide
  have e3 : double.infRung = 2047 * 4503599627370496 := by decide
  have e4 : double.leastPlace = -1074 := by decide
  have hm : mag ≠ 0 := by
    intro h
    rw [h, Nat.zero_mul] at hlo
    exact absurd hlo (by decide)
  obtain ⟨e, he⟩ : ∃ e : Nat, e = (place + 1074).toNat := ⟨_, rfl⟩
  have hep : place = (e : Int) - 1074 := by omega
  rw [← he] at hlo hhi ⊢
  have hlog : (mag * 2 ^ e).log2 = mag.log2 + e := log2_pow_mul mag e (Nat.pos_of_ne_zero hm)
  have hV0 : mag * 2 ^ e ≠ 0 := Nat.ne_of_gt (Nat.mul_pos (Nat.pos_of_ne_zero hm) (Nat.two_pow_pos e))
  have h60 : 60 ≤ mag.log2 + e := by rw [← hlog]; exact (Nat.le_log2 hV0).2 hlo
  have h2000 : mag.log2 + e < 2000 := by rw [← hlog]; exact (Nat.log2_lt hV0).2 hhi
  obtain ⟨A, hA⟩ : ∃ A : Nat, A + 52 = mag.log2 + e := ⟨mag.log2 + e - 52, by omega⟩
  have hlast : max (place + (mag.log2 : Int) - (double.fractionBits : Int)) double.leastPlace = (A : Int) - 1074 := by
    have : (double.fractionBits : Int) = 52 := rfl
    rw [this, e4]; omega
  have hnear : double.nearest false mag place = double.word false (min (A * 4503599627370496 + Toward.even.cut false (mag <<< (e - A)) (A - e)) (2047 * 4503599627370496)) := by
    unfold Format.nearest
    rw [if_neg hm]
    simp only [hlast]
    rw [e2, e3, e4, show (place - ((A : Int) - 1074)).toNat = e - A from by omega, show ((A : Int) - 1074 - place).toNat = A - e from by omega, show ((A : Int) - 1074 - -1074).toNat = A from by omega]
  obtain ⟨n, hn⟩ : ∃ n, n = mag <<< (e - A) := ⟨_, rfl⟩
  have hnv : n * 2 ^ e = mag * 2 ^ e * 2 ^ (e - A) := by rw [hn, Nat.shiftLeft_eq, Nat.mul_right_comm]
  have hn0 : n ≠ 0 := by rw [hn, Nat.shiftLeft_eq]; exact Nat.ne_of_gt (Nat.mul_pos (Nat.pos_of_ne_zero hm) (Nat.two_pow_pos _))
  have hnl : n.log2 = mag.log2 + (e - A) := by rw [hn, Nat.shiftLeft_eq, log2_pow_mul mag _ (Nat.pos_of_ne_zero hm)]
  obtain ⟨c1, c2⟩ := cut_near false n (A - e) (by omega)
  rw [← hn] at hnear
  obtain ⟨k, hk⟩ : ∃ k, k = Toward.even.cut false n (A - e) := ⟨_, rfl⟩
  rw [← hk] at hnear c1 c2
  -- the value of n in units: n * 2^(A - (A - e)) = V
  have hV : n * 2 ^ A = mag * 2 ^ e * 2 ^ (A - e) := by
    rcases Nat.le_total A e with h | h
    · rw [hn, Nat.shiftLeft_eq, show A - e = 0 from by omega, Nat.pow_zero, Nat.mul_one, Nat.mul_assoc, ← Nat.pow_add, show e - A + A = e from by omega]
    · rw [hn, Nat.shiftLeft_eq, show e - A = 0 from by omega, Nat.pow_zero, Nat.mul_one, Nat.mul_assoc, ← Nat.pow_add, show e + (A - e) = A from by omega]
  -- the number kept
  have hkn : 4503599627370496 ≤ k ∧ k ≤ 9007199254740992 := by
    have q1 : 2 ^ n.log2 ≤ n := Nat.log2_self_le hn0
    have q2 : n < 2 ^ (n.log2 + 1) := Nat.lt_log2_self
    have q3 : n.log2 = 52 + (A - e) := by omega
    rw [q3] at q1 q2
    exact keep_range n (A - e) k c1 c2 q1 q2
  have hA2 : A ≤ 1947 := by omega
  have hA' : A ≤ 2045 := by omega
  have hmin : min (A * 4503599627370496 + k) (2047 * 4503599627370496) = A * 4503599627370496 + k := Nat.min_eq_left (Nat.le_trans (Nat.add_le_add (Nat.mul_le_mul_right 4503599627370496 hA2) hkn.2) (by decide))
  have hlt : A * 4503599627370496 + k < 2047 * 4503599627370496 := Nat.lt_of_le_of_lt (Nat.add_le_add (Nat.mul_le_mul_right 4503599627370496 hA2) hkn.2) (by decide)
  rw [hmin] at hnear
  obtain ⟨m, i, g1, g2, _, _, g5⟩ := read_rung false A k hA' hkn.2 (.inl hkn.1) hlt
  clear hmin hlt
  refine ⟨k * 2 ^ A, ⟨m, i, by rw [hnear]; exact g1, g2, g5⟩, ?_⟩
  clear hnear g1 g2 g5 hlast hn hnv hnl hlo hhi
  have hPA := Nat.two_pow_pos (A - e)
  have hVk : 2 * (k * 2 ^ A) ≤ 2 * (mag * 2 ^ e) + 2 ^ A ∧ 2 * (mag * 2 ^ e) ≤ 2 * (k * 2 ^ A) + 2 ^ A := by
    have h1 : 2 * (k * 2 ^ A) * 2 ^ (A - e) ≤ (2 * (mag * 2 ^ e) + 2 ^ A) * 2 ^ (A - e) := by
      have := Nat.mul_le_mul_right (2 ^ A) c1
      calc 2 * (k * 2 ^ A) * 2 ^ (A - e) = 2 * (k * 2 ^ (A - e)) * 2 ^ A := by ac_rfl
        _ ≤ (2 * n + 2 ^ (A - e)) * 2 ^ A := this
        _ = 2 * (n * 2 ^ A) + 2 ^ (A - e) * 2 ^ A := by rw [Nat.add_mul, Nat.mul_assoc]
        _ = (2 * (mag * 2 ^ e) + 2 ^ A) * 2 ^ (A - e) := by rw [hV, Nat.add_mul]; ac_rfl
    have h2 : 2 * (mag * 2 ^ e) * 2 ^ (A - e) ≤ (2 * (k * 2 ^ A) + 2 ^ A) * 2 ^ (A - e) := by
      have := Nat.mul_le_mul_right (2 ^ A) c2
      calc 2 * (mag * 2 ^ e) * 2 ^ (A - e) = 2 * (n * 2 ^ A) := by rw [hV]; ac_rfl
        _ = 2 * n * 2 ^ A := by ac_rfl
        _ ≤ (2 * (k * 2 ^ (A - e)) + 2 ^ (A - e)) * 2 ^ A := this
        _ = (2 * (k * 2 ^ A) + 2 ^ A) * 2 ^ (A - e) := by rw [Nat.add_mul, Nat.add_mul]; ac_rfl
    exact ⟨Nat.le_of_mul_le_mul_right h1 hPA, Nat.le_of_mul_le_mul_right h2 hPA⟩
  have hbig : 2 ^ 52 * 2 ^ A ≤ mag * 2 ^ e := by
    rw [← Nat.pow_add, show 52 + A = (mag * 2 ^ e).log2 from by rw [hlog]; omega]
    exact Nat.log2_self_le hV0
  have r1 : (2 : Nat) ^ 52 = 4503599627370496 := by decide
  have r2 : (2 : Nat) ^ 53 = 9007199254740992 := by decide
  rw [r1] at hbig
  rw [r2]
  omega

/-- Z is V within a part of 2^50. -/
def near50 (Z V : Nat) : Prop := 2 ^ 50 * Z ≤ 2 ^ 50 * V + V ∧ 2 ^ 50 * V ≤ 2 ^ 50 * Z + V

theorem near50_of53 {Z V : Nat} (h : 2 ^ 53 * Z ≤ 2 ^ 53 * V + V) (k : 2 ^ 53 * V ≤ 2 ^ 53 * Z + V) : near50 Z V := by
  have r1 : (2 : Nat) ^ 50 = 1125899906842624 := by decide
  have r2 : (2 : Nat) ^ 53 = 9007199254740992 := by decide
  unfold near50
  rw [r2] at h k
  rw [r1]
  omega

theorem is_add {x y V W : Nat} (hx : Is x V) (hy : Is y W) (hlo : 2 ^ 60 ≤ V + W) (hhi : V + W < 2 ^ 2000) : ∃ z Z, floatBits .add .f64 x y = some z ∧ Is z Z ∧ near50 Z (V + W) := by
  obtain ⟨m, i, h1, h2, h3⟩ := hx
  obtain ⟨n, j, k1, k2, k3⟩ := hy
  obtain ⟨ns, mg, q, hs, hq, hv, hz⟩ := sum_sv false false m n i j h2 k2
  rw [sv_false, sv_false, h3, k3] at hv
  have hns : ns = false := by
    cases ns with
    | false => rfl
    | true =>
      by_cases hm : mg = 0
      · exact hz hm
      · exfalso
        unfold sv at hv
        rw [signed_eq] at hv
        have p1 : (0 : Int) < (mg : Int) * 2 ^ (q + 1074).toNat := Int.mul_pos (by omega) (two_pow_pos_int _)
        simp at hv
        omega
  subst hns
  rw [sv_false] at hv
  have hv' : mg * 2 ^ (q + 1074).toNat = V + W := Int.ofNat.inj (by rw [Int.ofNat_eq_natCast, hv]; simp)
  obtain ⟨Z, c1, c2, c3⟩ := nearest_near mg q hq (by rw [hv']; exact hlo) (by rw [hv']; exact hhi)
  rw [hv'] at c2 c3
  refine ⟨double.nearest false mg q, Z, ?_, c1, near50_of53 c2 c3⟩
  show ((double.read x).sum (double.read y)).map double.write = _
  rw [h1, k1, hs]
  rfl

theorem Is.place {x V : Nat} {m : Nat} {i : Int} (h : double.read x = .number false m i) (hv : m * 2 ^ (i + 1074).toNat = V) (hlo : 2 ^ 600 ≤ V) : -528 < i := by
  obtain ⟨g1, _, hm⟩ := read_number h
  by_cases hi : -528 < i
  · exact hi
  · exfalso
    have hle : (i + 1074).toNat ≤ 546 := by omega
    have q1 : (2 : Nat) ^ (i + 1074).toNat ≤ 2 ^ 546 := Nat.pow_le_pow_right (by decide) hle
    have q2 : m * 2 ^ (i + 1074).toNat ≤ 9007199254740991 * 2 ^ 546 := Nat.mul_le_mul (by omega) q1
    have q4 : (9007199254740991 : Nat) * 2 ^ 546 < 2 ^ 600 := by decide +kernel
    rw [hv] at q2
    exact absurd (Nat.lt_of_le_of_lt q2 q4) (Nat.not_lt.2 hlo)

theorem is_mul {x y V W : Nat} (hx : Is x V) (hy : Is y W) (hV : 2 ^ 600 ≤ V) (hW : 2 ^ 600 ≤ W) (hlo : 2 ^ 1134 ≤ V * W) (hhi : V * W < 2 ^ 3000) : ∃ z Z U, floatBits .mul .f64 x y = some z ∧ Is z Z ∧ U * 2 ^ 1074 = V * W ∧ near50 Z U := by
  obtain ⟨m, i, h1, h2, h3⟩ := hx
  obtain ⟨n, j, k1, k2, k3⟩ := hy
  have p1 := Is.place h1 h3 hV
  have p2 := Is.place k1 k3 hW
  have e3 : (i + 1074).toNat + (j + 1074).toNat = (i + j + 1074).toNat + 1074 := by omega
  have hU : m * n * 2 ^ (i + j + 1074).toNat * 2 ^ 1074 = V * W := by
    rw [← h3, ← k3, Nat.mul_assoc (m * n), ← Nat.pow_add, ← e3, Nat.pow_add]
    ac_rfl
  have hpp := Nat.two_pow_pos 1074
  obtain ⟨U, hUU⟩ : ∃ U, U = m * n * 2 ^ (i + j + 1074).toNat := ⟨_, rfl⟩
  have l1 : 2 ^ 60 ≤ U := by
    refine Nat.le_of_mul_le_mul_right ?_ hpp
    rw [hUU, hU, ← Nat.pow_add]
    exact hlo
  have l2 : U < 2 ^ 2000 := by
    refine Nat.lt_of_mul_lt_mul_right (a := 2 ^ 1074) ?_
    rw [hUU, hU, ← Nat.pow_add]
    exact Nat.lt_of_lt_of_le hhi (Nat.pow_le_pow_right (by decide) (by decide))
  rw [hUU] at l1 l2
  obtain ⟨Z, c1, c2, c3⟩ := nearest_near (m * n) (i + j) (by omega) l1 l2
  rw [← hUU] at c2 c3
  refine ⟨double.nearest false (m * n) (i + j), Z, U, ?_, c1, by rw [hUU]; exact hU, near50_of53 c2 c3⟩
  show ((double.read x).product (double.read y)).map double.write = _
  rw [h1, k1]
  rfl

theorem quot_near (D n : Nat) (hn : 0 < n) : (2 * (D / n) + (D % n != 0).toNat) * n ≤ 2 * D + n ∧ 2 * D ≤ (2 * (D / n) + (D % n != 0).toNat) * n + n := by
  have hdm := Nat.div_add_mod D n
  have hlt := Nat.mod_lt D hn
  generalize D / n = q at *
  generalize D % n = r at *
  rw [Nat.add_mul, Nat.mul_assoc, Nat.mul_comm q n]
  by_cases h0 : r = 0
  · subst h0; simp; omega
  · have : (r != 0) = true := by simp [h0]
    rw [this]; simp; omega

theorem is_div {x y V W : Nat} (hx : Is x V) (hy : Is y W) (hV0 : 2 ^ 1000 ≤ V) (hV1 : V < 2 ^ 1200) (hW0 : 2 ^ 1000 ≤ W) (hW1 : W < 2 ^ 1200) : ∃ z Z U, floatBits .quo .f64 x y = some z ∧ Is z Z ∧ near50 Z U ∧ near50 (U * W) (V * 2 ^ 1074) := by
  obtain ⟨m, i, h1, h2, h3⟩ := hx
  obtain ⟨n, j, k1, k2, k3⟩ := hy
  obtain ⟨_, _, hm53⟩ := read_number h1
  obtain ⟨_, _, hn53⟩ := read_number k1
  have lowI : ∀ (m : Nat) (i : Int) (V : Nat), -1074 ≤ i → m < 9007199254740992 → m * 2 ^ (i + 1074).toNat = V → 2 ^ 1000 ≤ V → -128 < i := by
    intro m i V _ hm hv hlo
    refine Int.lt_of_not_ge fun hi => ?_
    have hle : (i + 1074).toNat ≤ 946 := by omega
    have q2 : m * 2 ^ (i + 1074).toNat ≤ 9007199254740991 * 2 ^ 946 := Nat.mul_le_mul (Nat.le_of_lt_succ hm) (Nat.pow_le_pow_right (by decide) hle)
    have q4 : (9007199254740991 : Nat) * 2 ^ 946 < 2 ^ 1000 := by decide +kernel
    rw [hv] at q2
    exact absurd (Nat.lt_of_le_of_lt q2 q4) (Nat.not_lt.2 hlo)
  have highI : ∀ (m : Nat) (i : Int) (V : Nat), m * 2 ^ (i + 1074).toNat = V → 2 ^ 1000 ≤ V → V < 2 ^ 1200 → 0 < m ∧ i < 126 := by
    intro m i V hv hlo hhi
    have hm : 0 < m := by
      rcases Nat.eq_zero_or_pos m with h | h
      · rw [h, Nat.zero_mul] at hv
        rw [← hv] at hlo
        exact absurd hlo (by decide +kernel)
      · exact h
    refine ⟨hm, Int.lt_of_not_ge fun hi => ?_⟩
    have hle : 1200 ≤ (i + 1074).toNat := by omega
    have q2 : 1 * 2 ^ 1200 ≤ m * 2 ^ (i + 1074).toNat := Nat.mul_le_mul hm (Nat.pow_le_pow_right (by decide) hle)
    rw [hv, Nat.one_mul] at q2
    exact absurd hhi (Nat.not_lt.2 q2)
  have i1 := lowI m i V h2 hm53 h3 hV0
  have j1 := lowI n j W k2 hn53 k3 hW0
  obtain ⟨m0, i2⟩ := highI m i V h3 hV0 hV1
  obtain ⟨n0, j2⟩ := highI n j W k3 hW0 hW1
  clear lowI highI
  have lm : m.log2 ≤ 52 := by have : m.log2 < 53 := (Nat.log2_lt (Nat.ne_of_gt m0)).2 hm53; omega
  have ln : n.log2 ≤ 52 := by have : n.log2 < 53 := (Nat.log2_lt (Nat.ne_of_gt n0)).2 hn53; omega
  obtain ⟨more, hmore⟩ : ∃ more, more = 54 + n.log2 - m.log2 := ⟨_, rfl⟩
  have hm1 : more + m.log2 = 54 + n.log2 := by omega
  obtain ⟨D, hD⟩ : ∃ D, D = m * 2 ^ more := ⟨_, rfl⟩
  obtain ⟨mag, hmag⟩ : ∃ mag, mag = 2 * (D / n) + (D % n != 0).toNat := ⟨_, rfl⟩
  obtain ⟨c1, c2⟩ := quot_near D n n0
  rw [← hmag] at c1 c2
  have hDn : 2 ^ 53 * n ≤ D := by
    have q1 : 2 ^ m.log2 ≤ m := Nat.log2_self_le (Nat.ne_of_gt m0)
    have q2 : n < 2 ^ (n.log2 + 1) := Nat.lt_log2_self
    have q3 : 2 ^ 53 * n ≤ 2 ^ 53 * 2 ^ (n.log2 + 1) := Nat.mul_le_mul_left _ (Nat.le_of_lt q2)
    rw [← Nat.pow_add, show 53 + (n.log2 + 1) = m.log2 + more from by omega, Nat.pow_add] at q3
    rw [hD]
    exact Nat.le_trans q3 (Nat.mul_le_mul_right _ q1)
  have hDu : D < 2 ^ 55 * 2 ^ (n.log2) := by
    have q2 : m < 2 ^ (m.log2 + 1) := Nat.lt_log2_self
    rw [hD, ← Nat.pow_add, show 55 + n.log2 = m.log2 + 1 + more from by omega, Nat.pow_add]
    exact Nat.mul_lt_mul_of_pos_right q2 (Nat.two_pow_pos _)
  have hmagu : mag ≤ 2 ^ 57 := by
    have q1 : 2 ^ n.log2 ≤ n := Nat.log2_self_le (Nat.ne_of_gt n0)
    have q3 : D / n < 2 ^ 55 := by
      refine (Nat.div_lt_iff_lt_mul n0).2 (Nat.lt_of_lt_of_le hDu ?_)
      exact Nat.mul_le_mul_left _ q1
    have q4 : (D % n != 0).toNat ≤ 1 := Bool.toNat_le _
    rw [hmag]
    have r1 : (2 : Nat) ^ 55 = 36028797018963968 := by decide
    have r2 : (2 : Nat) ^ 57 = 144115188075855872 := by decide
    rw [r1] at q3
    rw [r2]
    omega
  have hmagl : 2 ^ 54 ≤ mag := by
    have q3 : 2 ^ 53 ≤ D / n := (Nat.le_div_iff_mul_le n0).2 hDn
    rw [hmag]
    have r1 : (2 : Nat) ^ 53 = 9007199254740992 := by decide
    have r2 : (2 : Nat) ^ 54 = 18014398509481984 := by decide
    rw [r1] at q3
    rw [r2]
    omega
  obtain ⟨place, hpl⟩ : ∃ place : Int, place = i - j - more - 1 := ⟨_, rfl⟩
  have hp1 : 600 ≤ (place + 1074).toNat := by omega
  have hp2 : (place + 1074).toNat ≤ 1400 := by omega
  obtain ⟨U, hU⟩ : ∃ U, U = mag * 2 ^ (place + 1074).toNat := ⟨_, rfl⟩
  have u1 : 2 ^ 60 ≤ U := by
    rw [hU]
    calc 2 ^ 60 ≤ 2 ^ 54 * 2 ^ 600 := by decide +kernel
      _ ≤ mag * 2 ^ (place + 1074).toNat := Nat.mul_le_mul hmagl (Nat.pow_le_pow_right (by decide) hp1)
  have u2 : U < 2 ^ 2000 := by
    rw [hU]
    calc mag * 2 ^ (place + 1074).toNat ≤ 2 ^ 57 * 2 ^ 1400 := Nat.mul_le_mul hmagu (Nat.pow_le_pow_right (by decide) hp2)
      _ < 2 ^ 2000 := by decide +kernel
  rw [hU] at u1 u2
  obtain ⟨Z, z1, z2, z3⟩ := nearest_near mag place (by omega) u1 u2
  rw [← hU] at z2 z3
  refine ⟨double.nearest false mag place, Z, U, ?_, z1, near50_of53 z2 z3, ?_⟩
  · show ((double.read x).quotient (double.fractionBits + 2) (double.read y)).map double.write = _
    rw [h1, k1]
    unfold Datum.quotient
    dsimp only
    rw [if_neg (Nat.ne_of_gt n0)]
    show some (double.nearest false _ _) = _
    have e1 : double.fractionBits + 2 + n.log2 - m.log2 = more := hmore.symm
    simp only [e1]
    rw [Nat.shiftLeft_eq, ← hD, ← hmag, ← hpl]
  · obtain ⟨P, hP⟩ : ∃ P, P = 2 ^ ((place + 1074).toNat + (j + 1074).toNat) := ⟨_, rfl⟩
    have e1 : U * W = mag * n * P := by rw [hU, ← k3, hP, Nat.pow_add]; ac_rfl
    have e2 : V * 2 ^ 1074 = 2 * D * P := by
      rw [← h3, hD, hP, Nat.mul_assoc, ← Nat.pow_add, show (i + 1074).toNat + 1074 = 1 + (more + ((place + 1074).toNat + (j + 1074).toNat)) from by omega, Nat.pow_add, Nat.pow_add 2 more, Nat.pow_one]
      ac_rfl
    unfold near50
    rw [e1, e2]
    have r1 : (2 : Nat) ^ 50 = 1125899906842624 := by decide
    have r2 : (2 : Nat) ^ 53 = 9007199254740992 := by decide
    rw [r2] at hDn
    rw [r1]
    clear hU hP e1 e2 hD hmag u1 u2 z1 z2 z3 h3 k3
    have f1 : 1125899906842624 * (mag * n) ≤ 1125899906842624 * (2 * D) + 2 * D := by omega
    have f2 : 1125899906842624 * (2 * D) ≤ 1125899906842624 * (mag * n) + 2 * D := by omega
    have g1 := Nat.mul_le_mul_right P f1
    have g2 := Nat.mul_le_mul_right P f2
    constructor
    · calc 1125899906842624 * (mag * n * P) = 1125899906842624 * (mag * n) * P := by ac_rfl
        _ ≤ (1125899906842624 * (2 * D) + 2 * D) * P := g1
        _ = 1125899906842624 * (2 * D * P) + 2 * D * P := by rw [Nat.add_mul]; ac_rfl
    · calc 1125899906842624 * (2 * D * P) = 1125899906842624 * (2 * D) * P := by ac_rfl
        _ ≤ (1125899906842624 * (mag * n) + 2 * D) * P := g2
        _ = 1125899906842624 * (mag * n * P) + 2 * D * P := by rw [Nat.add_mul]; ac_rfl
end Go.Proofs.YtnmbjalojgccmaaGreat
end
/-
  getNewLength: the floats give at least as many places as are wanted, and not many more.
-/
section
namespace Go.Proofs.YtnmbjalojgccmaaGreat
open Go.RowKit Ieee
set_option exponentiation.threshold 5000

theorem is_toInt {z Z : Nat} (h : Is z Z) (hlo : 2 ^ 1074 ≤ Z) (hhi : Z < 2 ^ 62 * 2 ^ 1074) : floatToIntVal .f64 z .i64 = some ((Z / 2 ^ 1074 : Nat) : Int) := by
  obtain ⟨m, i, h1, h2, h3⟩ := h
  have hT := Nat.two_pow_pos 1074
  have e : 1074 + i.toNat = (i + 1074).toNat + (-i).toNat := by omega
  have e2 : m * 2 ^ i.toNat * 2 ^ 1074 = Z * 2 ^ (-i).toNat := by
    rw [← h3, Nat.mul_assoc, ← Nat.pow_add, Nat.add_comm, e, Nat.pow_add, Nat.mul_assoc]
  have hcut : Toward.zero.cut false (m <<< i.toNat) (-i).toNat = Z / 2 ^ 1074 := by
    rw [Nat.shiftLeft_eq]
    obtain ⟨M, hM⟩ : ∃ M, M = m * 2 ^ i.toNat := ⟨_, rfl⟩
    rw [← hM] at e2 ⊢
    have hlow : 2 ^ (-i).toNat ≤ M := by
      refine Nat.le_of_mul_le_mul_right ?_ hT
      rw [e2, Nat.mul_comm (2 ^ (-i).toNat)]
      exact Nat.mul_le_mul_right _ hlo
    generalize (-i).toNat = d at *
    have hd0 := Nat.two_pow_pos d
    have hM0 : M ≠ 0 := by omega
    have hl : d ≤ M.log2 + 2 := by have := (Nat.le_log2 hM0).2 hlow; omega
    unfold Toward.cut
    simp only [Bool.toNat_false, Nat.add_zero, Nat.one_shiftLeft, Nat.min_eq_left hl]
    rw [← Nat.mul_div_mul_right M (2 ^ d) hT, e2, Nat.mul_comm (2 ^ d), Nat.mul_div_mul_right Z (2 ^ 1074) hd0]
  have hk : Z / 2 ^ 1074 < 2 ^ 62 := (Nat.div_lt_iff_lt_mul hT).2 hhi
  unfold floatToIntVal
  have hrd : FloatKind.f64.decode z = double.read z := rfl
  rw [hrd, h1]
  simp only [Datum.toInt, Datum.integral, hcut]
  generalize Z / 2 ^ 1074 = k at *
  have hsk : signed false k 0 = (k : Int) := by rw [signed_eq]; simp
  rw [hsk]
  have hb : IntKind.i64.min ≤ (k : Int) ∧ (k : Int) ≤ IntKind.i64.max := by
    have e1 : IntKind.i64.min = -9223372036854775808 := by decide
    have e2 : IntKind.i64.max = 9223372036854775807 := by decide
    have e3 : (2 : Nat) ^ 62 = 4611686018427387904 := by decide
    rw [e1, e2]; omega
  rw [if_pos hb]

/-- A tenth. -/
theorem is_tenth : Is 4591870180066957722 (7205759403792794 * 2 ^ 1018) := ⟨7205759403792794, -56, by decide +kernel, by decide, by decide +kernel⟩

theorem tenth_lo : 2 ^ 1074 ≤ 10 * (7205759403792794 * 2 ^ 1018) := by decide +kernel
theorem tenth_hi : 2 ^ 50 * (10 * (7205759403792794 * 2 ^ 1018)) ≤ 2 ^ 50 * 2 ^ 1074 + 2 ^ 1074 := by decide +kernel

theorem newLen_plain (d : Nat) (h1 : 1 ≤ d) (h2 : d ≤ 100000) : ∃ q r1 r2 k : Nat, floatBits .quo .f64 (nf (d + 63)) 4591870180066957722 = some q ∧ floatBits .add .f64 q 4607182418800017408 = some r1 ∧
    floatBits .mul .f64 r1 4591870180066957722 = some r2 ∧ floatToIntVal .f64 r2 .i64 = some (k : Int) ∧ d ≤ k ∧ k ≤ 2 * d + 1000 := by
  obtain ⟨n, hn⟩ : ∃ n, n = d + 63 := ⟨_, rfl⟩
  rw [← hn]
  obtain ⟨T, hT⟩ : ∃ T, T = 2 ^ 1074 := ⟨_, rfl⟩
  obtain ⟨W, hW⟩ : ∃ W, W = 7205759403792794 * 2 ^ 1018 := ⟨_, rfl⟩
  have iW := is_tenth
  have tlo := tenth_lo
  have thi := tenth_hi
  rw [← hW] at iW tlo thi
  have iN := Is.nf (n := n) (by omega)
  have iO := Is.nf (n := 1) (by decide)
  rw [nf_one] at iO
  have p1000 : 2 ^ 1000 ≤ T := by rw [hT]; exact Nat.pow_le_pow_right (by decide) (by decide)
  have hTpos : 0 < T := by rw [hT]; exact Nat.two_pow_pos _
  have hAlo : 2 ^ 1000 ≤ n * 2 ^ 1074 := by rw [← hT]; exact Nat.le_trans p1000 (Nat.le_mul_of_pos_left T (by omega))
  have hAhi : n * 2 ^ 1074 < 2 ^ 1200 := by
    calc n * 2 ^ 1074 ≤ 200000 * 2 ^ 1074 := Nat.mul_le_mul_right _ (by omega)
      _ < 2 ^ 1200 := by decide +kernel
  obtain ⟨q, Zq, U, hq, iq, nq1, nq2⟩ := is_div iN iW hAlo hAhi (by rw [hW]; decide +kernel) (by rw [hW]; decide +kernel)
  rw [← hT] at nq2 tlo thi iN iO hAlo hAhi
  rw [Nat.one_mul] at iO
  have r50 : (2 : Nat) ^ 50 = 1125899906842624 := by decide
  unfold near50 at nq1 nq2
  rw [r50] at nq1 nq2 thi
  -- U near 10 n T
  have ua : 1125899906842624 * U ≤ 11258999068426250 * (n * T) := by
    refine Nat.le_of_mul_le_mul_right ?_ hTpos
    have a1 := Nat.mul_le_mul_left 10 nq2.1
    have a2 := Nat.mul_le_mul_left (1125899906842624 * U) tlo
    calc 1125899906842624 * U * T ≤ 1125899906842624 * U * (10 * W) := a2
      _ = 10 * (1125899906842624 * (U * W)) := by ac_rfl
      _ ≤ 10 * (1125899906842624 * (n * T * T) + n * T * T) := a1
      _ = 11258999068426250 * (n * T) * T := by rw [← Nat.succ_mul]; rw [Nat.mul_assoc 11258999068426250]; omega
  have ub : 11258999068426230 * (n * T) ≤ 1125899906842625 * U := by
    refine Nat.le_of_mul_le_mul_right ?_ hTpos
    have a1 := Nat.mul_le_mul_left 10 nq2.2
    have a2 := Nat.mul_le_mul_left U thi
    have e1 : 10 * (1125899906842624 * (U * W) + n * T * T) = U * (1125899906842624 * (10 * W)) + 10 * (n * T * T) := by rw [Nat.mul_add]; congr 1; ac_rfl
    rw [e1] at a1
    have e2 : U * (1125899906842624 * T + T) = 1125899906842625 * U * T := by rw [Nat.mul_add, show 1125899906842625 = 1125899906842624 + 1 from rfl, Nat.add_mul, Nat.add_mul, Nat.one_mul]; congr 1; ac_rfl
    rw [e2] at a2
    rw [Nat.mul_assoc 11258999068426230]
    omega
  obtain ⟨A, hA⟩ : ∃ A, A = n * T := ⟨_, rfl⟩
  rw [← hA] at ua ub hAlo hAhi iN
  have hTA : T ≤ A := by rw [hA]; exact Nat.le_mul_of_pos_left T (by omega)
  have q1 : 999999970 * A ≤ 100000000 * Zq ∧ 100000000 * Zq ≤ 1000000030 * A := by
    clear nq2 thi tlo
    have s1 : 999999990 * A ≤ 100000000 * U ∧ 100000000 * U ≤ 1000000010 * A := by omega
    clear ua ub
    omega
  clear nq1 nq2 ua ub
  have hZqlo : 2 ^ 60 ≤ Zq + T := Nat.le_trans (Nat.le_trans (Nat.pow_le_pow_right (by decide) (by decide)) p1000) (Nat.le_add_left _ _)
  have hZA : Zq + T ≤ 12 * A := by omega
  have hZqhi : Zq + T < 2 ^ 2000 := by
    refine Nat.lt_of_le_of_lt hZA ?_
    refine Nat.lt_of_lt_of_le (Nat.mul_lt_mul_of_pos_left hAhi (by decide)) ?_
    decide +kernel
  obtain ⟨r1, Z1, hr1, ir1, nr1⟩ := is_add iq iO hZqlo hZqhi
  unfold near50 at nr1
  rw [r50] at nr1
  have z1 : 99999995 * (10 * A + T) ≤ 100000000 * Z1 ∧ 100000000 * Z1 ≤ 100000005 * (10 * A + T) := by
    clear thi tlo
    have s1 : 99999999 * (Zq + T) ≤ 100000000 * Z1 ∧ 100000000 * Z1 ≤ 100000001 * (Zq + T) := by omega
    clear nr1
    omega
  clear nr1 q1
  have hZ1lo : T ≤ Z1 := by omega
  have hZ1hi : Z1 ≤ 12 * A := by omega
  have h600 : 2 ^ 600 ≤ T := Nat.le_trans (Nat.pow_le_pow_right (by decide) (by decide)) p1000
  have hWlo : 2 ^ 600 ≤ W := by rw [hW]; decide +kernel
  obtain ⟨r2, Z2, U2, hr2, ir2, hU2, nr2⟩ := is_mul ir1 iW (Nat.le_trans h600 hZ1lo) hWlo
    (by
      have : 2 ^ 1000 * 2 ^ 600 ≤ Z1 * W := Nat.mul_le_mul (Nat.le_trans p1000 hZ1lo) hWlo
      exact Nat.le_trans (by decide +kernel) this)
    (by
      have h1 : Z1 * W ≤ 12 * A * W := Nat.mul_le_mul_right _ hZ1hi
      have h2 : 12 * A * W ≤ 12 * 2 ^ 1200 * W := Nat.mul_le_mul_right _ (Nat.mul_le_mul_left _ (Nat.le_of_lt hAhi))
      refine Nat.lt_of_le_of_lt (Nat.le_trans h1 h2) ?_
      rw [hW]
      decide +kernel)
  unfold near50 at nr2
  rw [r50] at nr2
  rw [← hT] at hU2
  have u1 : Z1 ≤ 10 * U2 := by
    refine Nat.le_of_mul_le_mul_right ?_ hTpos
    calc Z1 * T ≤ Z1 * (10 * W) := Nat.mul_le_mul_left _ tlo
      _ = 10 * (Z1 * W) := by ac_rfl
      _ = 10 * U2 * T := by rw [← hU2, Nat.mul_assoc]
  have u2 : 11258999068426240 * U2 ≤ 1125899906842625 * Z1 := by
    refine Nat.le_of_mul_le_mul_right ?_ hTpos
    have a := Nat.mul_le_mul_left Z1 thi
    have e1 : Z1 * (1125899906842624 * (10 * W)) = 11258999068426240 * U2 * T := by
      rw [Nat.mul_assoc 11258999068426240, hU2, show 11258999068426240 = 1125899906842624 * 10 from rfl]; ac_rfl
    have e2 : Z1 * (1125899906842624 * T + T) = 1125899906842625 * Z1 * T := by rw [Nat.mul_add, show 1125899906842625 = 1125899906842624 + 1 from rfl, Nat.add_mul, Nat.add_mul, Nat.one_mul]; congr 1; ac_rfl
    rw [e1, e2] at a
    exact a
  have z2 : 99999992 * (10 * A + T) ≤ 1000000000 * Z2 ∧ 1000000000 * Z2 ≤ 100000008 * (10 * A + T) := by
    clear thi tlo hU2
    have s1 : 99999999 * Z1 ≤ 1000000000 * U2 ∧ 1000000000 * U2 ≤ 100000001 * Z1 := by omega
    clear u1 u2
    have s2 : 99999999 * U2 ≤ 100000000 * Z2 ∧ 100000000 * Z2 ≤ 100000001 * U2 := by omega
    clear nr2
    omega
  clear nr2 u1 u2 z1 thi tlo hU2
  have hZ2T : T ≤ Z2 := by omega
  have hZ2hi : Z2 < 2 ^ 62 * T := by
    have h1 : Z2 ≤ 3 * A := by omega
    have h2 : 3 * A ≤ 3 * 200000 * T := by rw [hA, Nat.mul_assoc]; exact Nat.mul_le_mul_left _ (Nat.mul_le_mul_right _ (by omega))
    refine Nat.lt_of_le_of_lt (Nat.le_trans h1 h2) (Nat.mul_lt_mul_of_pos_right ?_ hTpos)
    decide
  rw [hT] at hZ2T hZ2hi
  have hint := is_toInt ir2 hZ2T hZ2hi
  rw [← hT] at hint
  obtain ⟨k, hk⟩ : ∃ k, k = Z2 / T := ⟨_, rfl⟩
  rw [← hk] at hint
  have k1 : k * T ≤ Z2 := by rw [hk]; exact Nat.div_mul_le_self _ _
  have k2 : Z2 < (k + 1) * T := by
    have h1 := Nat.div_add_mod Z2 T
    have h2 := Nat.mod_lt Z2 hTpos
    rw [Nat.mul_comm, ← hk] at h1
    rw [Nat.add_mul, Nat.one_mul]
    omega
  refine ⟨q, r1, r2, k, hq, hr1, hr2, hint, ?_, ?_⟩
  · have : 99999992 * (10 * n + 1) * T < 1000000000 * (k + 1) * T := by
      have e1 : 99999992 * (10 * n + 1) * T = 99999992 * (10 * A + T) := by rw [hA, Nat.mul_assoc, Nat.add_mul, Nat.one_mul, Nat.mul_assoc]
      rw [e1]
      refine Nat.lt_of_le_of_lt z2.1 ?_
      rw [Nat.mul_assoc]
      exact Nat.mul_lt_mul_of_pos_left k2 (by decide)
    have := Nat.lt_of_mul_lt_mul_right this
    omega
  · have : 1000000000 * k * T ≤ 100000008 * (10 * n + 1) * T := by
      have e1 : 100000008 * (10 * n + 1) * T = 100000008 * (10 * A + T) := by rw [hA, Nat.mul_assoc, Nat.add_mul, Nat.one_mul, Nat.mul_assoc]
      rw [e1]
      refine Nat.le_trans ?_ z2.2
      rw [Nat.mul_assoc]
      exact Nat.mul_le_mul_left _ k1
    have := Nat.le_of_mul_le_mul_right this hTpos
    omega

/-- A number of places from d on, and not many more. -/
def GivesLen (d : Nat) (w : World) (e : Ending) (w' : World) : Prop := ∃ k : Nat, d ≤ k ∧ k ≤ 2 * d + 1000 ∧ e = .returned (.int .i64 (k : Int)) ∧ w = w'

set_option maxRecDepth 100000 in
theorem newLen_any (d : Nat) (a b : Int) (s : Value) (w : World) (h1 : 1 ≤ d) (h2 : d ≤ 100000) (hd : b - a + 1 = (d : Int)) (_ha : -1000000 ≤ a) (_ha2 : a ≤ 1000000) :
    Calls Tryz.prog 233 #[s, .int .i64 a, .int .i64 b] w fun e w' => GivesLen d w e w' := by
  obtain ⟨q, r1, r2, k, hq, hr1, hr2, hk, k1, k2⟩ := newLen_plain d h1 h2
  have hcF := fun w => run_convert_int_float (P := Tryz.prog) w 3 30 .i64 .f64 ((d : Int) + 64 - 1) (by simp [Tryz.underlying3]) Tryz.underlying30
  have hnf : floatOfInt .f64 ((d : Int) + 64 - 1) = nf (d + 63) := by unfold nf; congr 1; omega
  rw [hnf] at hcF
  have e1 := fun w : World => run_float_arith (P := Tryz.prog) w .quo 30 .f64 _ _ _ hq
  have e2 := fun w : World => run_float_arith (P := Tryz.prog) w .add 30 .f64 _ _ _ hr1
  have e3 := fun w : World => run_float_arith (P := Tryz.prog) w .mul 30 .f64 _ _ _ hr2
  have hcI := fun w => run_convert_float_int (P := Tryz.prog) w 30 3 .f64 .i64 r2 (k : Int) (by simp [Tryz.underlying30]) Tryz.underlying3 hk
  clear hq hr1 hr2 hk hnf
  revert hcF e1
  generalize nf (d + 63) = y
  intro hcF e1
  go_enter Tryz.func233, Tryz.ntmps233
  go_wp2
  go_ret
  exact ⟨k, k1, k2, rfl, rfl⟩
end Go.Proofs.YtnmbjalojgccmaaGreat
end
