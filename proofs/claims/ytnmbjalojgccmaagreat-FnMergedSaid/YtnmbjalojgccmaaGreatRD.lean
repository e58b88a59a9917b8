/-
  Bins that are compared: they are bins with whole counts. The order of floats, turned about.
-/
import Derived.Test.YtnmbjalojgccmaaGreatQC
import Derived.Test.YtnmbjalojgccmaaGreatRA
section
namespace Go.Proofs.YtnmbjalojgccmaaGreat
open Go.RowKit Ieee

theorem proper_bins {ps : List (Int × Nat)} (h : properB ps = true) (hb : ∀ p ∈ ps, p.2 < 18446744073709551616) : ∃ xs : Bins, ps = fb xs ∧ InR xs ∧ Pos xs ∧ tot xs ≤ 1000 * xs.length ∧ xs.length ≤ 60 := by
  unfold properB at h
  obtain ⟨h1, h2⟩ := Bool.and_eq_true_iff.1 h
  have h2' := of_decide_eq_true h2
  suffices ∃ xs : Bins, ps = fb xs ∧ InR xs ∧ Pos xs ∧ tot xs ≤ 1000 * xs.length by
    obtain ⟨xs, e, a, b, c⟩ := this
    refine ⟨xs, e, a, b, c, ?_⟩
    rw [e, fb_length] at h2'
    exact h2'
  clear h h2 h2'
  induction ps with
  | nil => exact ⟨[], rfl, (fun p hp => by cases hp), (fun p hp => by cases hp), Nat.zero_le _⟩
  | cons p t ih =>
    obtain ⟨a1, a2⟩ := Bool.and_eq_true_iff.1 (show (okBin p && t.all okBin) = true from h1)
    obtain ⟨xs, e, i1, i2, i3⟩ := ih (fun q hq => hb q (List.mem_cons_of_mem _ hq)) a2
    unfold okBin at a1
    obtain ⟨b1, b2⟩ := Bool.and_eq_true_iff.1 a1
    obtain ⟨b3, b4⟩ := Bool.and_eq_true_iff.1 b1
    have b3' := of_decide_eq_true b3
    have b4' := of_decide_eq_true b4
    obtain ⟨n, n1, n2, n3⟩ := okC_whole p.2 (hb p List.mem_cons_self) b2
    refine ⟨(p.1, n) :: xs, ?_, ?_, ?_, ?_⟩
    · rw [show fb ((p.1, n) :: xs) = (p.1, nf n) :: fb xs from rfl, ← e, ← n3]
    · intro q hq
      rcases List.mem_cons.1 hq with rfl | hq
      · exact ⟨b3', b4'⟩
      · exact i1 q hq
    · intro q hq
      rcases List.mem_cons.1 hq with rfl | hq
      · show 0 < n; omega
      · exact i2 q hq
    · show n + tot xs ≤ 1000 * (xs.length + 1)
      omega

theorem order_swap (x y : Nat) : FloatKind.f64.format.order x y = (FloatKind.f64.format.order y x).map Ordering.swap := by
  unfold Format.order
  generalize FloatKind.f64.format.read x = a
  generalize FloatKind.f64.format.read y = b
  cases a <;> cases b <;> simp [Datum.order]
  case infinity.infinity s t => cases s <;> cases t <;> rfl
  case infinity.number s _ _ _ => cases s <;> rfl
  case number.infinity _ _ _ t => cases t <;> rfl
  case number.number s m i t n j =>
    rw [Int.min_comm j i]
    exact Std.OrientedCmp.eq_swap

theorem rankOk_of {t r : Nat} (h1 : FloatKind.f64.format.order r 0 = some .gt ∨ FloatKind.f64.format.order r 0 = some .eq) (h2 : FloatKind.f64.format.order r (nf t) = some .lt) : RankOk t r := by
  refine ⟨?_, ?_, ?_⟩
  · rcases h1 with h | h <;> rw [h] <;> rfl
  · unfold fgt2
    rw [nf_zero, order_swap]
    rcases h1 with h | h <;> rw [h] <;> rfl
  · unfold fgt2
    rw [order_swap, h2]
    rfl
end Go.Proofs.YtnmbjalojgccmaaGreat
end
