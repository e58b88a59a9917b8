/-
  Plain: how many bytes a number takes, by its binary digits; a turned number, by the zeros at its end.
-/
import Derived.Test.YtgjlbodclfhlfaaDoorTabU
import Derived.Test.YtgjlbodclfhlfaaDoorTabV
import Derived.Lib.BitFns
import Derived.Lib.TrailingZeros
namespace Go.Proofs.YtgjlbodclfhlfaaDoor

theorem lt_pow_iff (k : Nat) : ∀ x, x < 2 ^ 64 → (x < 2 ^ k ↔ Lib.bitLen x ≤ k) := by
  induction k with
  | zero =>
    intro x hx
    by_cases h0 : x = 0
    · subst h0; decide
    · rw [Lib.bitLen_half x h0 hx]; omega
  | succ k ih =>
    intro x hx
    by_cases h0 : x = 0
    · subst h0
      exact ⟨fun _ => by rw [show Lib.bitLen 0 = 0 from by decide]; omega, fun _ => Nat.two_pow_pos _⟩
    · rw [Lib.bitLen_half x h0 hx, Nat.pow_succ]
      have := ih (x / 2) (by omega)
      omega

theorem encU_len_eq (k : Nat) : ∀ v v' : Nat, (∀ j, 1 ≤ j → j ≤ k → (v < 128 ^ j ↔ v' < 128 ^ j)) → (encU k v).length = (encU k v').length := by
  induction k with
  | zero => intro v v' _; simp [encU]
  | succ k ih =>
    intro v v' h
    have h1 := h 1 (by omega) (by omega)
    rw [Nat.pow_one] at h1
    rw [encU, encU]
    by_cases c : v < 128
    · rw [if_pos c, if_pos (h1.1 c)]; rfl
    · rw [if_neg c, if_neg (fun e => c (h1.2 e))]
      simp only [List.length_cons]
      rw [ih (v / 128) (v' / 128)]
      intro j hj hk
      have := h (j + 1) (by omega) (by omega)
      rw [Nat.pow_succ] at this
      rw [Nat.div_lt_iff_lt_mul (by decide), Nat.div_lt_iff_lt_mul (by decide)]
      exact this

theorem ones_div : ∀ n, n < 65 → 18446744073709551615 / 2 ^ (64 - n) = 2 ^ n - 1 := by decide +kernel

theorem lenU_eq (v : Nat) (hv : v < 18446744073709551616) : Lib.bitLen v ≤ 64 ∧ lenU (64 - Lib.bitLen v) = (encU 8 v).length := by
  have hv' : v < 2 ^ 64 := by simpa using hv
  have hn : Lib.bitLen v ≤ 64 := (lt_pow_iff 64 v hv').1 hv'
  refine ⟨hn, ?_⟩
  unfold lenU
  rw [ones_div _ (by omega)]
  apply encU_len_eq
  intro j h1 h2
  have e : 128 ^ j = 2 ^ (7 * j) := by rw [Nat.pow_mul]
  rw [e, lt_pow_iff _ v hv']
  have hp : 0 < 2 ^ Lib.bitLen v := Nat.two_pow_pos _
  constructor
  · intro h
    rcases Nat.lt_or_ge (7 * j) (Lib.bitLen v) with h' | h'
    · have := Nat.pow_lt_pow_right (a := 2) (by decide) h'
      omega
    · exact h'
  · intro h
    have := Nat.pow_le_pow_right (n := 2) (by decide) h
    omega

/-- The zeros at a number's end, and its bytes. -/
theorem encV_zeros (k : Nat) : ∀ (x t : Nat), x < 18446744073709551616 → t ≤ 64 → (∀ j, j ≤ 64 → (x % 2 ^ j = 0 ↔ j ≤ t)) → k ≤ 8 →
    (encV k x).length = if 64 ≤ t + 7 then 1 else if 64 ≤ t + 7 * k then (64 - t + 6) / 7 else k + 1 := by
  induction k with
  | zero => intro x t hx ht h hk; simp [encV]; omega
  | succ k ih =>
    intro x t hx ht h hk
    have h57 := h 57 (by omega)
    have c : x * 128 % 18446744073709551616 = 0 ↔ 57 ≤ t := by
      rw [← h57]
      rw [show (2 : Nat) ^ 57 = 144115188075855872 from rfl]
      omega
    rw [encV]
    by_cases ht7 : 57 ≤ t
    · rw [if_pos (c.2 ht7), if_pos (by omega)]; rfl
    · rw [if_neg (fun e => ht7 (c.1 e)), List.length_cons]
      have hstep : ∀ j, j ≤ 64 → (x * 128 % 18446744073709551616 % 2 ^ j = 0 ↔ j ≤ t + 7) := by
        intro j hj
        rw [Nat.mod_mod_of_dvd _ (by rw [show (18446744073709551616 : Nat) = 2 ^ 64 from rfl]; exact Nat.pow_dvd_pow 2 hj)]
        by_cases hj7 : j ≤ 7
        · refine ⟨fun _ => by omega, fun _ => ?_⟩
          obtain ⟨d, hd⟩ := Nat.pow_dvd_pow 2 hj7
          rw [show (128 : Nat) = 2 ^ 7 from rfl, hd, Nat.mul_left_comm, Nat.mul_mod_right]
        · have e : 2 ^ j = 2 ^ (j - 7) * 128 := by rw [show (128 : Nat) = 2 ^ 7 from rfl, ← Nat.pow_add]; congr 1; omega
          rw [e, Nat.mul_mod_mul_right]
          have := h (j - 7) (by omega)
          constructor
          · intro h0
            have : x % 2 ^ (j - 7) = 0 := by
              rcases Nat.mul_eq_zero.1 h0 with h1 | h1
              · exact h1
              · omega
            have := (h (j - 7) (by omega)).1 this
            omega
          · intro h0
            rw [this.2 (by omega), Nat.zero_mul]
      rw [ih _ (t + 7) (Nat.mod_lt _ (by decide)) (by omega) hstep (by omega)]
      rw [if_neg (show ¬ 64 ≤ t + 7 from by omega)]
      split <;> (try split) <;> (try split) <;> omega

theorem ctz_spec (x : Nat) (hx : x < 18446744073709551616) : Lib.ctz 64 x ≤ 64 ∧ ∀ j, j ≤ 64 → (x % 2 ^ j = 0 ↔ j ≤ Lib.ctz 64 x) := by
  by_cases h0 : x = 0
  · subst h0
    refine ⟨by decide, fun j hj => ⟨fun _ => ?_, fun _ => Nat.zero_mod _⟩⟩
    rw [show Lib.ctz 64 0 = 64 from by decide]; exact hj
  · have hc : Lib.ctz 64 x = Lib.ctzFrom 64 x := by unfold Lib.ctz; rw [if_neg h0]
    obtain ⟨m, hm, hl⟩ := Lib.ctzFrom_spec 64 x (by omega) (by simpa using hx)
    rw [hc]
    refine ⟨by omega, fun j hj => ?_⟩
    generalize Lib.ctzFrom 64 x = t at *
    subst hm
    constructor
    · intro h
      rcases Nat.lt_or_ge t j with h' | h'
      · exfalso
        have e : 2 ^ j = 2 ^ t * (2 * 2 ^ (j - t - 1)) := by
          rw [← Nat.pow_succ', ← Nat.pow_add]; congr 1; omega
        rw [e, Nat.mul_mod_mul_left] at h
        have hp := Nat.two_pow_pos t
        rcases Nat.mul_eq_zero.1 h with h1 | h1
        · omega
        · have := Nat.mod_mul_right_mod (2 * m + 1) 2 (2 ^ (j - t - 1))
          rw [h1] at this
          omega
      · exact h'
    · intro h
      obtain ⟨d, hd⟩ := Nat.pow_dvd_pow 2 h
      rw [hd, Nat.mul_assoc, Nat.mul_mod_right]

theorem lenV_eq (x : Nat) (hx : x < 18446744073709551616) : Lib.ctz 64 x ≤ 64 ∧ lenV (Lib.ctz 64 x) = (encV 8 x).length := by
  obtain ⟨h1, h2⟩ := ctz_spec x hx
  refine ⟨h1, ?_⟩
  rw [encV_zeros 8 x _ hx h1 h2 (by omega)]
  unfold lenV
  generalize Lib.ctz 64 x = t at *
  split <;> split <;> (try split) <;> omega
end Go.Proofs.YtgjlbodclfhlfaaDoor
