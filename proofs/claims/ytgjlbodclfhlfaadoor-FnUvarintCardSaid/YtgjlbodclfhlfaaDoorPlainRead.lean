/-
  Plain: a number's bytes, with others behind them, are read.
-/
import Derived.Test.YtgjlbodclfhlfaaDoorPlainCut
namespace Go.Proofs.YtgjlbodclfhlfaaDoor

theorem decU_enc (t : List Nat) (k i acc v : Nat) (hi : i + k = 8) (hv : v * 128 ^ i < 18446744073709551616) : decU i acc (encU k v ++ t) = some (acc + v * 128 ^ i, t) := by
  induction k generalizing i acc v with
  | zero =>
    have h8 : i = 8 := by omega
    subst h8
    have : v % 256 = v := Nat.mod_eq_of_lt (by have h : (128 : Nat) ^ 8 = 72057594037927936 := by decide
                                               rw [h] at hv; omega)
    simp [encU, decU, this]
  | succ k ih =>
    rw [encU]
    split
    · rename_i h
      simp [decU, h]
    · rename_i h
      have e : v = v % 128 + 128 * (v / 128) := by omega
      rw [List.cons_append, decU, if_neg (by omega)]
      have e2 : v * 128 ^ i = v % 128 * 128 ^ i + v / 128 * 128 ^ (i + 1) := by
        conv => lhs; rw [e, Nat.add_mul]
        rw [Nat.pow_succ, Nat.mul_comm (128 ^ i) 128, ← Nat.mul_assoc, Nat.mul_comm 128 (v / 128)]
      rw [ih (i + 1) _ _ (by omega) (by omega), show (v % 128 + 128) % 128 = v % 128 from by omega, e2]
      simp [Nat.add_assoc]

theorem decU_read (v : Nat) (t : List Nat) (hv : v < 18446744073709551616) : decU 0 0 (encU 8 v ++ t) = some (v, t) := by
  rw [decU_enc t 8 0 0 v rfl (by omega)]; simp

theorem decV_enc (t : List Nat) (k i acc x : Nat) (hi : i + k = 8) (hx : x < 18446744073709551616) (hm : x % 2 ^ (7 * i) = 0) : decV i acc (encV k x ++ t) = some (acc + x / 2 ^ (7 * i), t) := by
  induction k generalizing i acc x with
  | zero =>
    have h8 : i = 8 := by omega
    subst h8
    simp [encV, decV]
  | succ k ih =>
    have hd : ∃ q, 2 ^ 57 = 2 ^ (57 - 7 * i) * q ∧ q = 2 ^ (7 * i) := ⟨_, by rw [← Nat.pow_add, show 57 - 7 * i + 7 * i = 57 from by omega], rfl⟩
    obtain ⟨q, hq, hqe⟩ := hd
    have hp57 : (2 : Nat) ^ 57 = 144115188075855872 := by decide
    have hq0 : 0 < q := by rw [hqe]; exact Nat.two_pow_pos _
    rw [← hqe] at hm ⊢
    rw [hp57] at hq
    have key : ∀ l, x / 144115188075855872 * 144115188075855872 + l = x → x / q = x / 144115188075855872 * 2 ^ (57 - 7 * i) + l / q := by
      intro l hl
      conv => lhs; rw [← hl, hq, ← Nat.mul_assoc, Nat.mul_comm _ q, Nat.mul_add_div hq0]
      rw [hq]
    have hmod : x * 128 % 18446744073709551616 = x % 144115188075855872 * 128 := by omega
    rw [encV]
    split
    · rename_i h
      have := key 0 (by omega)
      simp only [List.cons_append, List.nil_append, decV]
      rw [if_neg (by omega), if_pos (by omega), this]
      simp
    · rename_i h
      rw [List.cons_append, decV, if_neg (by omega), if_neg (by omega)]
      have e7 : 2 ^ (7 * (i + 1)) = q * 128 := by rw [hqe, show 7 * (i + 1) = 7 * i + 7 from by omega, Nat.pow_add]
      have hml : (x % 144115188075855872) % q = 0 := by
        rw [hq, Nat.mod_mul_left_mod]; exact hm
      rw [ih (i + 1) _ _ (by omega) (Nat.mod_lt _ (by decide)) (by rw [e7, hmod, Nat.mul_mod_mul_right, hml, Nat.zero_mul]), e7, hmod, Nat.mul_div_mul_right _ _ (by decide : 0 < 128), show (x / 144115188075855872 + 128) % 128 = x / 144115188075855872 from by omega, key (x % 144115188075855872) (by omega)]
      simp [Nat.add_assoc]

theorem decV_read (x : Nat) (t : List Nat) (hx : x < 18446744073709551616) : decV 0 0 (encV 8 x ++ t) = some (x, t) := by
  rw [decV_enc t 8 0 0 x rfl hx (by simp [Nat.mod_one])]; simp

theorem rotr6_rotl6 (x : Nat) (hx : x < 18446744073709551616) : rotr6 (rotl6 x) = x := by
  have e : rotl6 x = x % 288230376151711744 * 64 + x / 288230376151711744 := by unfold rotl6; omega
  have ha : x / 288230376151711744 < 64 := by omega
  rw [e]
  have hb : x = x / 288230376151711744 * 288230376151711744 + x % 288230376151711744 := by omega
  revert ha hb
  generalize x / 288230376151711744 = a
  generalize x % 288230376151711744 = b
  intro ha hb
  unfold rotr6
  have e1 : (b * 64 + a) * 288230376151711744 % 18446744073709551616 = a * 288230376151711744 := by omega
  rw [e1]
  omega

theorem unturned_turned (r : Nat) (hr : r < 18446744073709551616) : unturned (turned r) = r := by
  unfold unturned turned
  rw [rotr6_rotl6 _ (Nat.mod_lt _ (by decide))]
  omega
end Go.Proofs.YtgjlbodclfhlfaaDoor
