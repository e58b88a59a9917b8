/-
  Plain: the bytes of a number without their last one are none.
-/
import Derived.Test.YtgjlbodclfhlfaaDoorDecV
namespace Go.Proofs.YtgjlbodclfhlfaaDoor

theorem encU_byte (k v : Nat) : ∀ x ∈ encU k v, x < 256 := by
  induction k generalizing v with
  | zero => intro x hx; simp [encU] at hx; omega
  | succ k ih =>
    intro x hx
    rw [encU] at hx
    split at hx
    · simp at hx; omega
    · simp at hx
      rcases hx with rfl | hx
      · omega
      · exact ih _ x hx

theorem encU_len (k v : Nat) : 1 ≤ (encU k v).length ∧ (encU k v).length ≤ k + 1 := by
  induction k generalizing v with
  | zero => simp [encU]
  | succ k ih =>
    rw [encU]
    split
    · simp
    · have := ih (v / 128); simp; omega

theorem decU_cut (k i acc v : Nat) (hi : i + k = 8) : decU i acc (encU k v).dropLast = none := by
  induction k generalizing i acc v with
  | zero => simp [encU, decU]
  | succ k ih =>
    rw [encU]
    split
    · simp [decU]
    · have hl := (encU_len k (v / 128)).1
      rw [List.dropLast_cons_of_ne_nil (by intro e; rw [e] at hl; simp at hl), decU, if_neg (by omega)]
      exact ih _ _ _ (by omega)

theorem encV_byte (k x : Nat) (hx : x < 18446744073709551616) : ∀ y ∈ encV k x, y < 256 := by
  induction k generalizing x with
  | zero => intro y hy; simp [encV] at hy; omega
  | succ k ih =>
    intro y hy
    rw [encV] at hy
    split at hy
    · simp at hy; omega
    · simp at hy
      rcases hy with rfl | hy
      · omega
      · exact ih _ (Nat.mod_lt _ (by decide)) y hy

theorem encV_len (k x : Nat) : 1 ≤ (encV k x).length ∧ (encV k x).length ≤ k + 1 := by
  induction k generalizing x with
  | zero => simp [encV]
  | succ k ih =>
    rw [encV]
    split
    · simp
    · have := ih (x * 128 % 18446744073709551616); simp; omega

theorem decV_cut (k i acc x : Nat) (hi : i + k = 8) : decV i acc (encV k x).dropLast = none := by
  induction k generalizing i acc x with
  | zero => simp [encV, decV]
  | succ k ih =>
    rw [encV]
    split
    · simp [decV]
    · have hl := (encV_len k (x * 128 % 18446744073709551616)).1
      rw [List.dropLast_cons_of_ne_nil (by intro e; rw [e] at hl; simp at hl), decV, if_neg (by omega), if_neg (by omega)]
      exact ih _ _ _ (by omega)

/-- A float that stands in some order to another one is no NaN: one can be added to it. -/
theorem add_one_some (b c : Nat) (h : (FloatKind.f64.format.order b c).isSome = true) : ∃ r, floatBits .add .f64 b 4607182418800017408 = some r := by
  have h1 : FloatKind.f64.format.read 4607182418800017408 = .number false 4503599627370496 (-52) := by decide +kernel
  unfold floatBits
  show ∃ r, (FloatKind.f64.format.add b 4607182418800017408) = some r
  unfold Ieee.Format.add
  rw [h1]
  unfold Ieee.Format.order at h
  cases hb : FloatKind.f64.format.read b with
  | number s m i => exact ⟨_, rfl⟩
  | infinity s => exact ⟨_, rfl⟩
  | nan s f => rw [hb] at h; simp [Ieee.Datum.order] at h
end Go.Proofs.YtgjlbodclfhlfaaDoor
