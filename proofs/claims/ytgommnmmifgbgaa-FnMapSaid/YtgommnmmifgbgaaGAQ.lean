/-
  What each kind of mapping tells, from the looks: a frame for all percents.
-/
import Derived.Test.YtgommnmmifgbgaaGAM
import Derived.Test.YtgommnmmifgbgaaGAO
import Derived.Test.YtgommnmmifgbgaaGAP
import Derived.Test.YtgommnmmifgbgaaGAL
import Derived.Test.YtgommnmmifgbgaaProg
import Derived.Test.YtgommnmmifgbgaaGAA
import Derived.Deep.LoopGhost
import Derived.Deep.DeepMust
import Derived.Test.YtgommnmmifgbgaaGAE
section
namespace Go.Proofs.Ytgommnmmifgbgaa
open Go.RowKit
open Ieee
set_option exponentiation.threshold 5000

/-- A mapping of the accuracy a (p hundredths): it is made; what it tells of itself and of all values from 10^-6 to 10^6. -/
def MapOk (of_ : Nat → Option (Nat × Nat × Nat × Nat × Nat)) (acc : Nat → Option Nat) (idx : Nat → Nat → Nat → Option Int) (lower : Nat → Nat → Int → Option Nat) (value : Nat → Nat → Nat → Int → Option Nat) (p : Nat) : Prop :=
  ∃ a g off mult mn mx ra part x, fdiv (floatOfInt .f64 p) 4636737291354636288 = some a ∧ of_ a = some (g, off, mult, mn, mx) ∧ acc g = some ra ∧ nearO ra a 4472406533629990549 = some true ∧ flt mn 4517329193108106637 = true ∧ fgt mx 4696837146684686336 = true ∧
    fmul a 4607182418804521008 = some x ∧ fadd x 4427486594234968593 = some part ∧ partOk p part = true ∧
    ∀ v w, 4517329193108106637 ≤ v → v ≤ w → w ≤ 4696837146684686336 → TellsV (idx off mult) (lower off mult) (value g off mult) p part v ∧ TellsV (idx off mult) (lower off mult) (value g off mult) p part w ∧ ∃ i j, idx off mult v = some i ∧ idx off mult w = some j ∧ i ≤ j ∧ -100000 ≤ i ∧ j ≤ 100000

/-- A parameter: nought, or a float from .. to 128. -/
def smallZ (o : Nat) : Bool := Nat.beq o 0 || (Nat.ble 4503599627370496 o && Nat.ble o 4638707616191610880)
def smallB (o : Nat) : Bool := Nat.ble 4503599627370496 o && Nat.ble o 4638707616191610880

theorem rvN_128 : ∃ K, K = 1074 ∧ rvN 4638707616191610880 = 128 * 2 ^ K := by
  refine ⟨1074, rfl, ?_⟩
  decide +kernel

theorem smallB_is {o : Nat} (h : smallB o = true) : ∃ c, FV o c ∧ 0 < qv c ∧ qv c ≤ 128 := by
  unfold smallB at h
  rw [Bool.and_eq_true] at h
  have h1 := Nat.le_of_ble_eq_true h.1
  have h2 := Nat.le_of_ble_eq_true h.2
  have hm := rvN_mono h1 h2
  obtain ⟨K, hK, hk⟩ := rvN_128
  refine ⟨_, fv_rv h1 (by omega), qv_mul_pos ?_, ?_⟩
  · unfold rvN
    have := Nat.mul_pos (show 0 < 4503599627370496 + o % 4503599627370496 by omega) (Nat.two_pow_pos (o / 4503599627370496 - 1))
    omega
  · have e := qv_pow 128 K hK
    have : qv ((rvN o : Nat) : Int) ≤ qv (128 * 2 ^ K) := qv_le (by
      rw [hk] at hm
      have := Int.ofNat_le.2 hm
      rw [Int.natCast_mul, Int.natCast_pow] at this
      exact this)
    rw [e] at this
    exact this

theorem smallZ_is {o : Nat} (h : smallZ o = true) : ∃ c, FV o c ∧ 0 ≤ qv c ∧ qv c ≤ 128 := by
  unfold smallZ at h
  rw [Bool.or_eq_true] at h
  rcases h with h | h
  · have := beq_nat h
    subst this
    have e0 : qv 0 = 0 := by unfold qv; simp
    exact ⟨0, fv_zero, by rw [e0]; exact Rat.le_refl, by rw [e0]; decide⟩
  · obtain ⟨c, h1, h2, h3⟩ := smallB_is h
    exact ⟨c, h1, Rat.le_of_lt h2, h3⟩

/-- The accuracy and the part within which a value is to be. -/
def partLook (p a part : Nat) : Bool :=
  (match qdiv (floatOfInt .f64 p) 4636737291354636288 with | some r => Nat.beq r a | none => false) && ((match qmul a 4607182418804521008 with | some x => (match qadd x 4427486594234968593 with | some y => Nat.beq y part | none => false) | none => false) && partOk p part)

theorem partLook_is {p a part : Nat} (h : partLook p a part = true) : ∃ x, fdiv (floatOfInt .f64 p) 4636737291354636288 = some a ∧ fmul a 4607182418804521008 = some x ∧ fadd x 4427486594234968593 = some part ∧ partOk p part = true := by
  unfold partLook at h
  simp only [Bool.and_eq_true] at h
  obtain ⟨h1, h2, h3⟩ := h
  rw [← fdiv_q] at h1
  rw [← fmul_q] at h2
  cases ha : fdiv (floatOfInt .f64 p) 4636737291354636288 with
  | none => rw [ha] at h1; cases h1
  | some r =>
    rw [ha] at h1
    have := beq_nat h1
    subst this
    cases hx : fmul r 4607182418804521008 with
    | none => rw [hx] at h2; cases h2
    | some x =>
      rw [hx] at h2
      dsimp only at h2
      rw [← fadd_q] at h2
      cases hy : fadd x 4427486594234968593 with
      | none => rw [hy] at h2; cases h2
      | some y =>
        rw [hy] at h2
        have := beq_nat h2
        subst this
        exact ⟨x, rfl, rfl, hy, h3⟩

/-- From the looks: a mapping that keeps the order of all floats. -/
theorem mapOk_mono {of_ ofQ : Nat → Option (Nat × Nat × Nat × Nat × Nat)} {acc accQ : Nat → Option Nat} {idx idxQ : Nat → Nat → Nat → Option Int} {lower lowerQ : Nat → Nat → Int → Option Nat} {value : Nat → Nat → Nat → Int → Option Nat}
    {p a off mult rb part : Nat} {i0 i1 : Int} (e1 : ∀ a, of_ a = ofQ a) (e2 : ∀ g, acc g = accQ g) (e3 : ∀ o m v, idx o m v = idxQ o m v) (e4 : ∀ o m i, lower o m i = lowerQ o m i)
    (hval : ∀ g o m i, value g o m i = (lower o m i).bind fun l => (acc g).bind fun a => (fadd 4607182418800017408 a).bind fun b => fmul l b)
    (mono : ∀ {off mult : Nat} {c o : Int}, FV mult c → FV off o → 0 < qv c → qv c ≤ 128 → 0 ≤ qv o → qv o ≤ 128 → ∀ {x y : Nat}, 4499096027743125504 ≤ x → x ≤ y → y ≤ 4715268809856909312 → ∃ i j, idx off mult x = some i ∧ idx off mult y = some j ∧ i ≤ j)
    (par : parLook ofQ accQ (idxQ off mult) a off mult rb i0 i1 = true) (fact : ∀ i, i0 ≤ i → i ≤ i1 + 1 → FactK (lowerQ off mult) (lookI (idxQ off mult)) rb p i)
    (hm : smallB mult = true) (ho : smallZ off = true) (hp : partLook p a part = true) (p1 : 1 ≤ p) (p2 : p ≤ 50) (b0 : -100000 ≤ i0) (b1 : i1 ≤ 100000) : MapOk of_ acc idx lower value p := by
  obtain ⟨g, mn, mx, ra, o1, o2, o3, o4, o5, o6, o7, o8⟩ := parLook_is par
  obtain ⟨x, d1, d2, d3, d4⟩ := partLook_is hp
  obtain ⟨c, fm, c1, c2⟩ := smallB_is hm
  obtain ⟨o, fo, z1, z2⟩ := smallZ_is ho
  rw [← e1] at o1
  rw [← e2] at o2
  rw [← fadd_q] at o3
  rw [← flt_q] at o5
  refine ⟨a, g, off, mult, mn, mx, ra, part, x, d1, o1, o2, o4, o5, ?_, d2, d3, d4, ?_⟩
  · rw [fgt_q]; exact o6
  intro v w v1 vw w2
  have hV : ∀ i b V, lower off mult i = some b → qmul b rb = some V → value g off mult i = some V := fun i b V hb hq => by
    rw [← fmul_q] at hq
    rw [hval, hb, o2]
    show (fadd 4607182418800017408 ra).bind _ = _
    rw [o3]
    exact hq
  have hmono : ∀ x y, 4499096027743125504 ≤ x → x ≤ y → y ≤ 4715268809856909312 → ∃ i j, idx off mult x = some i ∧ idx off mult y = some j ∧ i ≤ j := fun x y a b c => mono fm fo c1 c2 z1 z2 a b c
  have ei : idxQ off mult = idx off mult := funext fun v => (e3 off mult v).symm
  have el : lowerQ off mult = lower off mult := funext fun v => (e4 off mult v).symm
  rw [ei] at o7 o8
  rw [ei, el] at fact
  have L : ∀ v, 4517329193108106637 ≤ v → v ≤ 4696837146684686336 → Lies (idx off mult) (lower off mult) rb p v := fun v a b => lies_mono hmono fact o7 o8 (by omega) (by omega) a b
  exact ⟨tells_of_lies hV (L v v1 (by omega)) d4 p1 p2 v1 (by omega), tells_of_lies hV (L w (by omega) w2) d4 p1 p2 (by omega) w2, by
    obtain ⟨i, j, ei, ej, hij⟩ := hmono v w (by omega) vw (by omega)
    obtain ⟨k, l, ek, el', hkl⟩ := hmono 4517329193108106637 v (by omega) v1 (by omega)
    obtain ⟨m, n, em, en, hmn⟩ := hmono w 4696837146684686336 (by omega) w2 (by omega)
    rw [o7] at ek; cases ek
    rw [o8] at en; cases en
    rw [ei] at el'; cases el'
    rw [ej] at em; cases em
    exact ⟨_, _, ei, ej, hij, by omega, by omega⟩⟩

/-- .. and one that keeps the order of floats that are four floats apart. -/
theorem mapOk_step {of_ ofQ : Nat → Option (Nat × Nat × Nat × Nat × Nat)} {acc accQ : Nat → Option Nat} {idx idxQ : Nat → Nat → Nat → Option Int} {lower lowerQ : Nat → Nat → Int → Option Nat} {value : Nat → Nat → Nat → Int → Option Nat}
    {p a off mult rb part : Nat} {i0 i1 : Int} (e1 : ∀ a, of_ a = ofQ a) (e2 : ∀ g, acc g = accQ g) (e3 : ∀ o m v, idx o m v = idxQ o m v) (e4 : ∀ o m i, lower o m i = lowerQ o m i)
    (hval : ∀ g o m i, value g o m i = (lower o m i).bind fun l => (acc g).bind fun a => (fadd 4607182418800017408 a).bind fun b => fmul l b)
    (step : ∀ {off mult : Nat} {c o : Int}, FV mult c → FV off o → 0 < qv c → qv c ≤ 128 → 0 ≤ qv o → qv o ≤ 128 → ∀ {x y : Nat}, 4499096027743125504 ≤ x → x + 4 ≤ y → y ≤ 4715268809856909312 → ∃ i j, idx off mult x = some i ∧ idx off mult y = some j ∧ i ≤ j)
    (tot : ∀ {off mult : Nat} {c o : Int}, FV mult c → FV off o → 0 < qv c → qv c ≤ 128 → 0 ≤ qv o → qv o ≤ 128 → ∀ {x : Nat}, 4499096027743125504 ≤ x → x ≤ 4715268809856909312 → ∃ i, idx off mult x = some i)
    (par : parLook ofQ accQ (idxQ off mult) a off mult rb i0 i1 = true) (fact : ∀ i, i0 ≤ i → i ≤ i1 + 1 → FactK (lowerQ off mult) (lookC (idxQ off mult)) rb p i) (h01 : i0 ≤ i1)
    (hm : smallB mult = true) (ho : smallZ off = true) (hp : partLook p a part = true) (p1 : 1 ≤ p) (p2 : p ≤ 50) (b0 : -100000 ≤ i0) (b1 : i1 ≤ 100000) : MapOk of_ acc idx lower value p := by
  obtain ⟨g, mn, mx, ra, o1, o2, o3, o4, o5, o6, o7, o8⟩ := parLook_is par
  obtain ⟨x, d1, d2, d3, d4⟩ := partLook_is hp
  obtain ⟨c, fm, c1, c2⟩ := smallB_is hm
  obtain ⟨o, fo, z1, z2⟩ := smallZ_is ho
  rw [← e1] at o1
  rw [← e2] at o2
  rw [← fadd_q] at o3
  rw [← flt_q] at o5
  refine ⟨a, g, off, mult, mn, mx, ra, part, x, d1, o1, o2, o4, o5, ?_, d2, d3, d4, ?_⟩
  · rw [fgt_q]; exact o6
  intro v w v1 vw w2
  have hV : ∀ i b V, lower off mult i = some b → qmul b rb = some V → value g off mult i = some V := fun i b V hb hq => by
    rw [← fmul_q] at hq
    rw [hval, hb, o2]
    show (fadd 4607182418800017408 ra).bind _ = _
    rw [o3]
    exact hq
  have ei : idxQ off mult = idx off mult := funext fun v => (e3 off mult v).symm
  have el : lowerQ off mult = lower off mult := funext fun v => (e4 off mult v).symm
  rw [ei] at o7 o8
  rw [ei, el] at fact
  obtain ⟨L1, L2, L3⟩ := lies_cub (fun x y a b c => step fm fo c1 c2 z1 z2 a b c) (fun x a b => tot fm fo c1 c2 z1 z2 a b) fact h01 o7 o8 (by omega) (by omega) (by omega) v1 vw w2
  obtain ⟨-, -, k, l, ek, el', hkl⟩ := lies_cub (fun x y a b c => step fm fo c1 c2 z1 z2 a b c) (fun x a b => tot fm fo c1 c2 z1 z2 a b) fact h01 o7 o8 (by omega) (by omega) (by omega) (Nat.le_refl _) v1 (by omega)
  obtain ⟨-, -, m, n, em, en, hmn⟩ := lies_cub (fun x y a b c => step fm fo c1 c2 z1 z2 a b c) (fun x a b => tot fm fo c1 c2 z1 z2 a b) fact h01 o7 o8 (by omega) (by omega) (by omega) (show _ ≤ w by omega) w2 (Nat.le_refl _)
  refine ⟨tells_of_lies hV L1 d4 p1 p2 v1 (by omega), tells_of_lies hV L2 d4 p1 p2 (by omega) w2, ?_⟩
  obtain ⟨i, j, ei, ej, hij⟩ := L3
  rw [o7] at ek; cases ek
  rw [o8] at en; cases en
  rw [ei] at el'; cases el'
  rw [ej] at em; cases em
  exact ⟨_, _, ei, ej, hij, by omega, by omega⟩
end Go.Proofs.Ytgommnmmifgbgaa
end
/-
  spec.Fits, whatever the float.
-/
section
namespace Go.Proofs.Ytgommnmmifgbgaa
open Go.RowKit

theorem order_nan {n : Nat} (h : 9218868437227405312 < n % 9223372036854775808) (z : Nat) : FloatKind.f64.format.order n z = none := by
  have e1 : Ieee.double.signWeight = 9223372036854775808 := by decide
  have e2 : Ieee.double.binade = 4503599627370496 := by decide
  have e3 : Ieee.double.infRung = 9218868437227405312 := by decide
  show (Ieee.double.read n).order (Ieee.double.read z) = none
  have : ∃ s t, Ieee.double.read n = .nan s t := by
    unfold Ieee.Format.read
    rw [e1, e2, e3]
    dsimp only
    rw [if_neg (by omega), if_neg (by omega), if_neg (by omega)]
    exact ⟨_, _, rfl⟩
  obtain ⟨s, t, hr⟩ := this
  rw [hr]
  unfold Ieee.Datum.order
  cases Ieee.double.read z <;> rfl

theorem run_max_nan {P : Program} (w : World) (x y : Nat) (h : maxO x y = none) : ∃ n, (∀ z, FloatKind.f64.format.order n z = none) ∧ ∀ ts t, (Builtin.max_ ts t #[.float .f64 x, .float .f64 y]).run P w = .ok (.float .f64 n) w.drew := by
  unfold maxO at h
  cases ho : FloatKind.f64.format.order x y with
  | none =>
    refine ⟨_, ?_, fun ts t => by simp [Builtin.max_, Builtin.max2, ho, Question.forced]; rfl⟩
    intro z
    refine order_nan ?_ z
    unfold Question.cut
    dsimp only
    generalize w.tape w.drawn _ = t
    rw [show (2 : Nat) ^ 63 = 9223372036854775808 from by decide, show (2 : Nat) ^ 52 = 4503599627370496 from by decide]
    have hr := Nat.mod_lt (t / 2) (show 0 < 4503599627370496 - 1 by decide)
    have hs := Nat.mod_lt t (show 0 < 2 by decide)
    generalize t / 2 % (4503599627370496 - 1) = r at *
    generalize t % 2 = s at *
    have : s = 0 ∨ s = 1 := by omega
    rcases this with h | h <;> subst h <;> omega
  | some c =>
    rw [ho] at h
    cases c <;> cases h

/-- spec.Fits, plainly. -/
def fitsB (v : Nat) : Bool := match maxO v (negF v) with | some a => feq v 0 || (fge a 4517329193108106637 && fle a 4696837146684686336) | none => feq v 0

set_option maxRecDepth 100000 in
set_option maxHeartbeats 800000 in
theorem fits_any (v : Nat) (w : World) : Calls Try.prog 5 #[.float .f64 v] w fun e w' => e = .returned (.bool (fitsB v)) ∧ ∃ k, w' = w.drewN k := by
  unfold fitsB
  cases hm : maxO v (negF v) with
  | some m =>
    have q2 := fun (w : World) ts t => run_max_float (P := Try.prog) w ts t v (negF v) m hm
    clear hm
    dsimp only
    obtain ⟨b0, h0⟩ : ∃ b, feq v 0 = b := ⟨_, rfl⟩
    obtain ⟨b1, h1⟩ : ∃ b, fge m 4517329193108106637 = b := ⟨_, rfl⟩
    obtain ⟨b2, h2⟩ : ∃ b, fle m 4696837146684686336 = b := ⟨_, rfl⟩
    rw [h0, h1, h2]
    have k0 : (FloatKind.f64.format.order v 0 == some .eq) = b0 := h0
    have k1 : (FloatKind.f64.format.order m 4517329193108106637 == some .gt || FloatKind.f64.format.order m 4517329193108106637 == some .eq) = b1 := h1
    have k2 : (FloatKind.f64.format.order m 4696837146684686336 == some .lt || FloatKind.f64.format.order m 4696837146684686336 == some .eq) = b2 := h2
    clear h0 h1 h2
    cases b0 <;> cases b1 <;> cases b2 <;> (
      go_enter Try.func5, Try.ntmps5
      go_wp2
      go_ret
      exact ⟨rfl, 0, rfl⟩)
  | none =>
    obtain ⟨n, hn, hr⟩ := run_max_nan (P := Try.prog) w v (negF v) hm
    clear hm
    dsimp only
    obtain ⟨b0, h0⟩ : ∃ b, feq v 0 = b := ⟨_, rfl⟩
    rw [h0]
    have k0 : (FloatKind.f64.format.order v 0 == some .eq) = b0 := h0
    have k1 : (FloatKind.f64.format.order n 4517329193108106637 == some .gt || FloatKind.f64.format.order n 4517329193108106637 == some .eq) = false := by rw [hn]; rfl
    clear h0
    cases b0 <;> (
      go_enter Try.func5, Try.ntmps5
      go_wp2
      go_ret
      exact ⟨rfl, 1, rfl⟩)
end Go.Proofs.Ytgommnmmifgbgaa
end
/-
  What spec.Fits tells of a float's bits.
-/
section
namespace Go.Proofs.Ytgommnmmifgbgaa
open Go.RowKit
open Ieee

theorem fits_inf (s : Bool) : fitsB ((if s then 9223372036854775808 else 0) + 9218868437227405312) = false := by
  cases s <;> decide +kernel

theorem fits_fin {v : Nat} (hv : v < 18446744073709551616) (h : fitsB v = true) : finB v = true := by
  by_cases h1 : v % 9223372036854775808 < 9218868437227405312
  · unfold finB
    rw [Bool.and_eq_true, Nat.blt_eq, Nat.blt_eq]
    exact ⟨h1, hv⟩
  · exfalso
    by_cases h2 : v % 9223372036854775808 = 9218868437227405312
    · have e : v = (if decide (9223372036854775808 ≤ v) then 9223372036854775808 else 0) + 9218868437227405312 := by
        by_cases h3 : 9223372036854775808 ≤ v
        · simp [h3]; omega
        · simp [h3]; omega
      rw [e, fits_inf] at h
      cases h
    · have hn := order_nan (n := v) (by omega)
      unfold fitsB maxO at h
      rw [hn] at h
      unfold feq at h
      rw [hn] at h
      cases h

/-- A float that fits: its size is one of those that are compared. -/
theorem fits_parts {v : Nat} (hv : v < 18446744073709551616) (h : fitsB v = true) : ∃ s : Bool, ∃ r : Nat, v = (if s then 9223372036854775808 else 0) + r ∧ FV v ((if s then (-1 : Int) else 1) * ((rungV r : Nat) : Int)) ∧ (r = 0 ∨ (4517329193108106637 ≤ r ∧ r ≤ 4696837146684686336)) := by
  obtain ⟨s0, hf0, -⟩ := finB_fv (fits_fin hv h)
  obtain ⟨s, r, hr, hx, ha⟩ := fv_parts hf0
  rw [ha] at hf0
  refine ⟨s, r, hx, hf0, ?_⟩
  obtain ⟨m, hm, fm⟩ := maxO_abs hf0
  have hab : ((if s then (-1 : Int) else 1) * ((rungV r : Nat) : Int)).natAbs = rungV r := natAbs_signed s _
  rw [hab] at fm
  unfold fitsB at h
  rw [hm] at h
  dsimp only at h
  rw [feq_fv hf0 fv_zero, fge_fv fm (fv_rv (x := 4517329193108106637) (by decide) (by decide)), fle_fv fm (fv_rv (x := 4696837146684686336) (by decide) (by decide))] at h
  simp only [Bool.or_eq_true, Bool.and_eq_true, decide_eq_true_eq] at h
  rcases h with h | ⟨h1, h2⟩
  · left
    have : rungV r = 0 := by
      have := congrArg Int.natAbs h
      rw [hab] at this; exact this
    exact rungV_zero.1 this
  · right
    rw [rvN_rung (by decide)] at h1 h2
    have k1 : ¬ rungV r < rungV 4517329193108106637 := by have := Int.ofNat_le.1 h1; omega
    have k2 : ¬ rungV 4696837146684686336 < rungV r := by have := Int.ofNat_le.1 h2; omega
    rw [rungV_lt] at k1 k2
    omega

/-- .. and above nought. -/
theorem fits_bits {v : Nat} (hv : v < 18446744073709551616) (h : fitsB v = true) (h0 : fle v 0 = false) : 4517329193108106637 ≤ v ∧ v ≤ 4696837146684686336 := by
  obtain ⟨s, r, hx, hf, hr⟩ := fits_parts hv h
  rw [fle_fv hf fv_zero, decide_eq_false_iff_not] at h0
  have hne : r ≠ 0 := fun e => by
    subst e
    have : rungV 0 = 0 := rungV_zero.2 rfl
    rw [this] at h0
    apply h0
    cases s <;> simp
  cases s
  · simp at hx
    omega
  · exfalso
    apply h0
    simp
end Go.Proofs.Ytgommnmmifgbgaa
end
/-
  EncodeUvarint64: the buffer grows by the number's bytes, seven bits at a time.
-/
section
namespace Go.Proofs.Ytgommnmmifgbgaa
open Go.RowKit

theorem Try.infoU8 : (Try.prog.info? 5).map (fun i => (i.zero, i.size, i.bytes)) = some (some (.int .u8 0), 1, 1) := by kernel_rfl

theorem Try.sizeU8 (w : World) : (sizeOf 5).run Try.prog w = .ok 1 w := by kernel_rfl

/-- The bytes of a number: at most k with seven bits, then one with what is left. -/
def encU : Nat → Nat → List Nat
  | 0, v => [v % 256]
  | k + 1, v => if v < 128 then [v] else (v % 128 + 128) :: encU k (v / 128)

theorem encU_len1 (k v : Nat) : 1 ≤ (encU k v).length ∧ (encU k v).length ≤ k + 1 := by
  induction k generalizing v with
  | zero => simp [encU]
  | succ k ih =>
    rw [encU]
    split
    · simp
    · have := ih (v / 128); simp; omega

theorem or128 (u : Nat) : bits .or .u8 ((u : Int) % 256) 128 = ((u % 128 + 128 : Nat) : Int) := by
  have h := u8_or_nat (u % 256) 128 (by omega) (by omega)
  have e : ((u % 256 : Nat) : Int) = (u : Int) % 256 := by omega
  rw [e] at h
  rw [show ((128 : Nat) : Int) = 128 from rfl] at h
  rw [h]
  have : u % 256 ||| 128 = u % 128 + 128 := by
    have hb : ∀ x : BitVec 8, x ||| 128#8 = (x &&& 127#8) + 128#8 := by decide
    have hx := congrArg BitVec.toNat (hb (BitVec.ofNat 8 u))
    simp only [BitVec.toNat_or, BitVec.toNat_add, BitVec.toNat_and, BitVec.toNat_ofNat] at hx
    rw [show (127 : Nat) % 2 ^ 8 = 127 from rfl, nat_mask7, show (2 : Nat) ^ 8 = 256 from rfl, show (128 : Nat) % 256 = 128 from rfl] at hx
    omega
  rw [this]

set_option maxRecDepth 100000 in
set_option maxHeartbeats 400000 in
theorem encU_any (p : Nat) (r : Option Nat) (v : Nat) (xs : List Nat) (w : World) (hv : v < 18446744073709551616)
   (hb : Buf 36 5 w p r xs) (hn : xs.length < 1000000000) :
    Calls Try.prog 19 #[.pointer (some ⟨p, 0, none⟩), .int .u64 v] w fun e w' => e = .returned (.tuple #[]) ∧ GrewTo 36 5 w w' p r (xs ++ encU 8 v) := by
  obtain ⟨i0, hi, hz0, hz1, hz2⟩ := info_parts Try.infoU8
  go_enter Try.func19, Try.ntmps19
  go_wp2
  go_loopw [1, 4] (fun u i wr => ∃ k u' : Nat, ∃ pre : List Nat, k ≤ 8 ∧ pre.length = k ∧ i = .int .i64 k ∧ u = .int .u64 u' ∧ u' < 18446744073709551616 ∧ encU 8 v = pre ++ encU (8 - k) u' ∧ GrewTo 36 5 w wr p r (xs ++ pre)) (fun _ i _ => 8 - (intOf i).toNat)
  case atStart => exact ⟨0, v, [], by omega, rfl, rfl, rfl, hv, rfl, by simpa using GrewTo.start hb⟩
  case round =>
    obtain ⟨k, u', pre, hk, hpl, rfl, rfl, hu, he, hgr⟩ := hrel
    obtain ⟨r', ⟨s, hcell, hown, hrr⟩, hfr, hr'⟩ := id hgr
    have hc := cell_of_one hcell
    have hf := free_of_one hcell
    clear hgr
    have HE := Lib.hid he; clear he
    have HC := Lib.hid hcell; clear hcell
    have HR := Lib.hid hrr; clear hrr
    have HF := Lib.hid hfr; clear hfr
    have HX := Lib.hid hr'; clear hr' hb
    have HU := Lib.hid hu; clear hu
    have hl : (xs ++ pre).length < 1000000010 := by simp; omega
    have HP := Lib.hid hpl; clear hpl
    by_cases h8 : k < 8
    · by_cases h128 : u' < 128
      · go_wp2_with (at_builtin; refine wpList_append_own2 _ rfl _ _ 36 rfl 5 i0 (.int .u8 0) 1 1 Try.underlying36 hi hz0 hz1 hz2 rfl (by decide) s (xs ++ pre).length (cu8 (xs ++ pre)) rfl (hown.alloc _) ⟨wr.heap.size, 0, none⟩ 1 1 [Value.int .u8 ((u' : Int))] rfl rfl ?c1 ?c2 ?c3 ?c4 ?_)
        case c1 => exact cell_one_new _ _ _
        case c2 => intro u hu; simp at hu; subst hu; rfl
        case c3 => unfold maxLen; omega
        case c4 => omega
        intro v' w1 hown' hgrow hblk
        have hown2 : w1.ownsRow 0 5 1 v' ((xs ++ pre).length + [u'].length) (cu8 (xs ++ pre) ++ cu8 [u']) := by
          simpa [cu8] using hown'
        have hc1 := buf_cell_behind (by decide) HC.out hown hgrow
        have g := grew_step (ys := [u']) (by decide) HC.out hown HR.out HF.out HX.out hown2 hgrow hblk
        obtain ⟨ao, n1, cp1, hv1⟩ := owns_slice hown'
        rw [hv1] at g
        rw [hv1]
        have HG := Lib.hid g
        clear hown' hown2 hgrow hblk g hv1
        have hcc := cell_of_one hc1
        have hff := free_of_one hc1
        clear hc1
        go_wp2
        go_end0
        refine ⟨rfl, ?_⟩
        have e : encU 8 v = pre ++ [u'] := by
          rw [HE.out]; congr 1
          obtain ⟨j, hj⟩ : ∃ j, 8 - k = j + 1 := ⟨7 - k, by omega⟩
          rw [hj, encU, if_pos h128]
        rw [e, ← List.append_assoc]
        exact HG.out
      · go_wp2_with (at_builtin; refine wpList_append_own2 _ rfl _ _ 36 rfl 5 i0 (.int .u8 0) 1 1 Try.underlying36 hi hz0 hz1 hz2 rfl (by decide) s (xs ++ pre).length (cu8 (xs ++ pre)) rfl (hown.alloc _) ⟨wr.heap.size, 0, none⟩ 1 1 [Value.int .u8 (bits .or .u8 ((u' : Int) % 256) 128)] rfl rfl ?c1 ?c2 ?c3 ?c4 ?_)
        case c1 => exact cell_one_new _ _ _
        case c2 => intro u hu; simp at hu; subst hu; rfl
        case c3 => unfold maxLen; omega
        case c4 => omega
        intro v' w1 hown' hgrow hblk
        have hown2 : w1.ownsRow 0 5 1 v' ((xs ++ pre).length + [u' % 128 + 128].length) (cu8 (xs ++ pre) ++ cu8 [u' % 128 + 128]) := by
          rw [or128] at hown'; simpa [cu8] using hown'
        have hc1 := buf_cell_behind (by decide) HC.out hown hgrow
        have g := grew_step (ys := [u' % 128 + 128]) (by decide) HC.out hown HR.out HF.out HX.out hown2 hgrow hblk
        obtain ⟨ao, n1, cp1, hv1⟩ := owns_slice hown'
        rw [hv1] at g
        rw [hv1]
        have HG := Lib.hid g
        clear hown' hown2 hgrow hblk g hv1
        have hcc := cell_of_one hc1
        have hff := free_of_one hc1
        clear hc1
        go_wp2
        go_roundw
        case rel =>
          refine ⟨k + 1, u' / 128, pre ++ [u' % 128 + 128], by omega, by have := HP.out; simp; omega, by go_num, ?_, by have := HU.out; omega, ?_, ?_⟩
          · go_num
          · rw [HE.out, List.append_assoc]; congr 1
            obtain ⟨j, hj⟩ : ∃ j, 8 - k = j + 1 := ⟨7 - k, by omega⟩
            rw [hj, encU, if_neg h128, show 8 - (k + 1) = j from by omega]; rfl
          · rw [← List.append_assoc]; exact HG.out
        case measure => simp [intOf]; omega
    · go_wp2_with (at_builtin; refine wpList_append_own2 _ rfl _ _ 36 rfl 5 i0 (.int .u8 0) 1 1 Try.underlying36 hi hz0 hz1 hz2 rfl (by decide) s (xs ++ pre).length (cu8 (xs ++ pre)) rfl (hown.alloc _) ⟨wr.heap.size, 0, none⟩ 1 1 [Value.int .u8 ((u' : Int) % 256)] rfl rfl ?c1 ?c2 ?c3 ?c4 ?_)
      case c1 => exact cell_one_new _ _ _
      case c2 => intro u hu; simp at hu; subst hu; rfl
      case c3 => unfold maxLen; omega
      case c4 => omega
      intro v' w1 hown' hgrow hblk
      have hown2 : w1.ownsRow 0 5 1 v' ((xs ++ pre).length + [u' % 256].length) (cu8 (xs ++ pre) ++ cu8 [u' % 256]) := by
        simpa [cu8] using hown'
      have hc1 := buf_cell_behind (by decide) HC.out hown hgrow
      have g := grew_step (ys := [u' % 256]) (by decide) HC.out hown HR.out HF.out HX.out hown2 hgrow hblk
      obtain ⟨ao, n1, cp1, hv1⟩ := owns_slice hown'
      rw [hv1] at g
      rw [hv1]
      have HG := Lib.hid g
      clear hown' hown2 hgrow hblk g hv1
      have hcc := cell_of_one hc1
      have hff := free_of_one hc1
      clear hc1
      go_wp2
      go_end0
      refine ⟨rfl, ?_⟩
      have e : encU 8 v = pre ++ [u' % 256] := by
        rw [HE.out]; congr 1
        rw [show 8 - k = 0 from by omega, encU]
      rw [e, ← List.append_assoc]
      exact HG.out
end Go.Proofs.Ytgommnmmifgbgaa
end
/-
  works: it is true.
-/
section
namespace Go.Proofs.Ytgommnmmifgbgaa
open Go.RowKit

set_option maxRecDepth 100000 in
theorem uvarint_closure (pn : Nat) (v : Nat) (p : Nat) (r : Option Nat) (w : World) (hv : v < 18446744073709551616) (hpn : w.cell? ⟨pn, 0, none⟩ = some (.int .u64 v)) (hb : Buf 36 5 w p r []) :
    Calls Try.prog 18 (#[.pointer (some ⟨p, 0, none⟩)] ++ #[.pointer (some ⟨pn, 0, none⟩)]) w fun e w' => e = .returned (.tuple #[]) ∧ GrewTo 36 5 w w' p r (encU 8 v) := by
  have H := encU_any p r v [] w hv hb (by simp)
  clear hb hv
  go_enter Try.func18, Try.ntmps18
  go_wp2_with fail
  refine H.mono ?_
  clear H
  rintro e w1 ⟨rfl, hg⟩
  have G := Lib.hid hg; clear hg
  go_wp2
  go_end0
  exact ⟨rfl, by simpa using G.out⟩

set_option maxRecDepth 100000 in
theorem implUvarint_any (v : Nat) (w : World) (hv : v < 18446744073709551616) :
    Calls Try.prog 10 #[.int .u64 v] w fun e w' => GivesBytes (encU 8 v) w e w' := by
  have hmf : ∀ (fn : Fn) (first cap : Array Value) (w : World), (Instr.makeFunc fn first cap).run Try.prog w = .ok (.func fn first cap) w := fun _ _ _ _ => rfl
  have H := coded_any 18 #[.pointer (some ⟨w.heap.size, 0, none⟩)] (encU 8 v) (w.alloc (.cells #[.int .u64 v] 38))
    (fun p w => run_enter Try.func18 (by kernel_rfl) rfl _ w)
    (fun w1 p r hb hbel _ => uvarint_closure w.heap.size v p r w1 hv ((hbel.cell (p := ⟨w.heap.size, 0, none⟩) (by simp)).trans (cell_of_one (heap_alloc_new w _))) hb)
  clear hv
  go_enter Try.func10, Try.ntmps10
  go_wp2_with fail
  refine H.mono ?_
  clear H
  rintro e w1 ⟨ao, n, c, rfl, ⟨hby, hbel⟩⟩
  have G : Hid (GivesBytes (encU 8 v) w (.returned (.slice ao n c)) w1) :=
    ⟨ao, n, c, rfl, ⟨⟨hby.1, fun k hk => by have := hby.2 k hk; simp at this; omega⟩, ((Below.refl _ w).alloc (Nat.le_refl _) _).trans (hbel.mono (by simp))⟩⟩
  clear hby hbel
  go_wp2
  go_ret
  exact G.out

/-- It hands back true; nothing that was there has turned. -/
def IsTrue (w : World) (e : Ending) (w' : World) : Prop := e = .returned (.bool true) ∧ Below w.heap.size w w'

set_option maxRecDepth 100000 in
theorem works_any (w : World) : Calls Try.prog 6 #[] w fun e w' => IsTrue w e w' := by
  have H := implUvarint_any 1 w (by decide)
  go_enter Try.func6, Try.ntmps6
  go_wp2_with fail
  refine H.mono ?_
  clear H
  rintro e w1 ⟨ao, n, c, rfl, ⟨⟨hown, _⟩, hbel⟩⟩
  have hst := run_string_of_owned (P := Try.prog) 36 5 9 Try.underlying36 Try.underlying5 Try.underlying9 hown
  have G := Lib.hid hbel
  clear hown hbel
  go_wp2
  go_ret
  exact ⟨by show Ending.returned (.bool ((str (encU 8 1)).toList == [1])) = _; rw [show ((str (encU 8 1)).toList == [1]) = true from by decide +kernel], G.out⟩
end Go.Proofs.Ytgommnmmifgbgaa
end
