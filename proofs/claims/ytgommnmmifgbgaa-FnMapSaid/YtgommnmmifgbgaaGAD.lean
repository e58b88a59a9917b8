/-
  Sqrt, bit by bit: of a number above nought that has all its digits.
-/
import Derived.Test.YtgommnmmifgbgaaGAC
import Derived.BigQuiet
section
namespace Go.Proofs.Ytgommnmmifgbgaa
open Go.RowKit

/-- The root's digits: n rounds to go. -/
def sqGo : Nat → Nat → Nat → Nat → Nat × Nat
  | 0, ix, q, _ => (ix, q)
  | n + 1, ix, q, s =>
    if (s + 2 ^ n) % 18446744073709551616 ≤ ix then sqGo n ((ix - (s + 2 ^ n) % 18446744073709551616) * 2 % 18446744073709551616) ((q + 2 ^ n) % 18446744073709551616) (((s + 2 ^ n) % 18446744073709551616 + 2 ^ n) % 18446744073709551616)
    else sqGo n (ix * 2 % 18446744073709551616) q s

/-- What stands in r with n rounds to go. -/
def sqR (n : Nat) : Nat := if n = 0 then 0 else 2 ^ (n - 1)

/-- The loop of sqrt. -/
def SqRel (i0 q0 : Nat) (w wr : World) (v3 v5 v6 v7 _v8 : Value) : Prop :=
  w = wr ∧ ∃ n ix q s : Nat, n ≤ 54 ∧ ix < 18446744073709551616 ∧ q < 18446744073709551616 ∧ v3 = .int .u64 (ix : Int) ∧ v5 = .int .u64 (q : Int) ∧ v6 = .int .u64 (s : Int) ∧ v7 = .int .u64 ((sqR n : Nat) : Int) ∧ sqGo n ix q s = (i0, q0)

/-- Sqrt's answer, plainly. -/
def sqrtF (x : Nat) : Option Nat :=
  (need (!(feq x 0))).bind fun _ =>
  (need (isNum x)).bind fun _ =>
  (need (!(fgt x 9218868437227405311))).bind fun _ =>
  (need (!(flt x 0))).bind fun _ =>
  (some (wrap64 (bits .and .u64 ((x : Int) / 4503599627370496) 2047))).bind fun e0 =>
  (need (!(decide (e0 = 0)))).bind fun _ =>
  (some (wrap64 (e0 - 1023))).bind fun e1 =>
  (some (bits .or .u64 (bits .andNot .u64 (x : Int) 9218868437227405312) 4503599627370496).toNat).bind fun ix2 =>
  (need (decide (bits .or .u64 (bits .andNot .u64 (x : Int) 9218868437227405312) 4503599627370496 = (ix2 : Int)))).bind fun _ =>
  (some (if decide (bits .and .i64 e1 1 = 1) = true then ix2 * 2 % 18446744073709551616 else ix2)).bind fun ix3 =>
  (some (sqGo 54 (ix3 * 2 % 18446744073709551616) 0 0)).bind fun p =>
  (some (if p.1 = 0 then p.2 else (p.2 + p.2 % 2) % 18446744073709551616)).bind fun q =>
  some (IntKind.u64.wrap ((q : Int) / 2 + IntKind.u64.wrap (IntKind.u64.wrap (wrap64 (wrap64 (e1 / 2 - 1) + 1023)) * 4503599627370496))).toNat

set_option maxRecDepth 100000 in
set_option maxHeartbeats 4000000 in
theorem sqrt_any (x : Nat) (out : Nat) (w : World) (h : sqrtF x = some out) : Calls Try.prog 60 #[.float .f64 x] w fun e w' => e = .returned (.float .f64 out) ∧ w = w' := by
  unfold sqrtF at h
  simp only [Option.bind_eq_some_iff] at h
  obtain ⟨_u1, n1, _u2, n2, _u3, n3, _u4, n4, e0, a1, _u5, n5, e1, a2, ix2, a3, _u6, n6, ix3, a4, p, a5, q, a6, hout⟩ := h
  have q1 : (FloatKind.f64.format.order x 0 == some .eq) = false := need_not n1
  have q2 := need_is n2
  have q3 := need_not n3
  have q4 : (FloatKind.f64.format.order x 0 == some .lt) = false := need_not n4
  have q5 : (e0 == 0) = false := by simpa using need_not n5
  have q6 := Option.some.inj a1
  have q7 := Option.some.inj a2
  have q8 : bits .or .u64 (bits .andNot .u64 (x : Int) 9218868437227405312) 4503599627370496 = (ix2 : Int) := by simpa using need_is n6
  have q9 := Option.some.inj a4
  have q10 := Option.some.inj a5
  have q11 := Option.some.inj a6
  have ho := Option.some.inj hout
  clear n1 n2 n3 n4 n5 n6 a1 a2 a3 a4 a5 a6 hout
  obtain ⟨i0, q0⟩ := p
  have HL := Lib.hid q10
  obtain ⟨fin, hfin⟩ : ∃ fin : Int, IntKind.u64.wrap ((q : Int) / 2 + IntKind.u64.wrap (IntKind.u64.wrap (wrap64 (wrap64 (e1 / 2 - 1) + 1023)) * 4503599627370496)) = fin := ⟨_, rfl⟩
  rw [hfin] at ho
  have HO := Lib.hid ho
  have HF := Lib.hid hfin
  have H9 := Lib.hid q9
  have H11 := Lib.hid q11
  have hs0 : sqR 54 = 9007199254740992 := by decide
  clear q9 q10 q11 ho hfin
  have HX : ∀ w, Calls Try.prog 67 #[.float .f64 x] w fun e w' => e = .returned (.float .f64 out) ∧ w = w' := by
    intro w
    cases hod : (bits .and .i64 e1 1 == 1)
    · have hi3 : ix2 = ix3 := by simpa [show ¬ bits .and .i64 e1 1 = 1 from by simpa using hod] using H9.out
      rw [← hi3] at HL
      clear hi3
      have f0 : IntKind.u64.wrap ((ix2 : Int) * 2) = ((ix2 * 2 % 18446744073709551616 : Nat) : Int) := by rw [← wrap_u64_nat, Int.natCast_mul]; rfl
      obtain ⟨I0, hI0⟩ : ∃ I0, I0 = ix2 * 2 % 18446744073709551616 := ⟨_, rfl⟩
      have hI0l : I0 < 18446744073709551616 := by rw [hI0]; exact Nat.mod_lt _ (by decide)
      rw [← hI0] at f0 HL
      clear hI0
      go_enter Try.func67, Try.ntmps67
      go_wp2_with (first | (go_at_call 53; refine (isNaN_any x w q2).mono ?_; rintro e w' ⟨rfl, rfl⟩) | (go_at_call 58; refine (isPosInf_any x w q3).mono ?_; rintro e w' ⟨rfl, rfl⟩) | (go_at_call 66; refine (twinBits_any _ w).mono ?_; rintro e w' ⟨rfl, rfl⟩) | (go_at_call 46; refine (twinFrom_any _ w).mono ?_; rintro e w' ⟨rfl, rfl⟩))
      go_loopw [3, 5, 6, 7, 8] (fun v3 v5 v6 v7 v8 wr => SqRel i0 q0 w wr v3 v5 v6 v7 v8) (fun _ _ _ r _ _ => (intOf r).toNat)
      case atStart => exact ⟨rfl, 54, I0, 0, 0, by omega, hI0l, by decide, rfl, rfl, rfl, by rw [hs0]; rfl, HL.out⟩
      case round =>
        obtain ⟨rfl, n, ix, q', s, hn, hix, hq'l, rfl, rfl, rfl, rfl, hgo⟩ := hrel
        cases n with
        | zero =>
          have e0' : sqR 0 = 0 := rfl
          have hg : ix = i0 ∧ q' = q0 := by simpa [sqGo] using hgo
          obtain ⟨rfl, rfl⟩ := hg
          rw [e0']
          have H11' := H11.out
          by_cases hz : ix = 0
          · subst hz
            have hq : q' = q := by simpa using H11'
            subst hq
            have HF' := HF.out
            have HO' := HO.out
            go_wp2_with (go_at_call 46; refine (twinFrom_any _ w).mono ?_; rintro e w' ⟨rfl, rfl⟩)
            go_ret
            exact ⟨rfl, rfl⟩
          · have hz' : ((ix : Int) == 0) = false := by simpa using hz
            have hz2 : ¬ (ix : Int) = 0 := by simpa using hz
            have hq : (q' + q' % 2) % 18446744073709551616 = q := by simpa [hz] using H11'
            have hq1 : IntKind.u64.wrap ((q' : Int) + bits .and .u64 (q' : Int) 1) = (q : Int) := by
              have hb : bits .and .u64 (q' : Int) 1 = ((q' % 2 : Nat) : Int) := by
                rw [show (1 : Int) = ((1 : Nat) : Int) from rfl, u64_and_nat q' 1 (hq'l) (by decide), Nat.and_one_is_mod]
              rw [hb, ← Int.natCast_add, wrap_u64_nat, hq]
            have HF' := HF.out
            have HO' := HO.out
            go_wp2_with (go_at_call 46; refine (twinFrom_any _ w).mono ?_; rintro e w' ⟨rfl, rfl⟩)
            go_ret
            exact ⟨rfl, rfl⟩
        | succ k =>
          obtain ⟨R, hR⟩ : ∃ R, R = 2 ^ k := ⟨_, rfl⟩
          have hR0 : 0 < R := by rw [hR]; exact Nat.two_pow_pos k
          have eR : sqR (k + 1) = R := by unfold sqR; rw [if_neg (by omega), hR]; rfl
          have eR2 : (R : Int) / 2 = ((sqR k : Nat) : Int) := by
            unfold sqR
            cases k with
            | zero => rw [hR]; rfl
            | succ j => rw [hR, if_neg (by omega), Nat.pow_succ]; simp
          have hlt : sqR k < R := by
            unfold sqR
            cases k with
            | zero => rw [if_pos rfl]; exact hR0
            | succ j => rw [hR, if_neg (by omega), Nat.pow_succ]; have := Nat.two_pow_pos j; simp; omega
          rw [eR]
          have hRz : ¬ (R : Int) = 0 := by omega
          have hRz' : ((R : Int) == 0) = false := by simpa using hRz
          unfold sqGo at hgo
          rw [← hR] at hgo
          obtain ⟨T, hT⟩ : ∃ T, T = (s + R) % 18446744073709551616 := ⟨_, rfl⟩
          rw [← hT] at hgo
          have fT : IntKind.u64.wrap ((s : Int) + (R : Int)) = (T : Int) := by rw [hT, ← wrap_u64_nat, Int.natCast_add]
          by_cases hle : T ≤ ix
          · rw [if_pos hle] at hgo
            have c1 : (T : Int) ≤ (ix : Int) := by omega
            have f1 : IntKind.u64.wrap ((T : Int) + (R : Int)) = (((T + R) % 18446744073709551616 : Nat) : Int) := by rw [← wrap_u64_nat, Int.natCast_add]
            have f2 : IntKind.u64.wrap ((ix : Int) - (T : Int)) = ((ix - T : Nat) : Int) := by rw [← Int.natCast_sub hle, wrap_u64_nat, Nat.mod_eq_of_lt (by omega)]
            have f3 : IntKind.u64.wrap ((q' : Int) + (R : Int)) = (((q' + R) % 18446744073709551616 : Nat) : Int) := by rw [← wrap_u64_nat, Int.natCast_add]
            obtain ⟨T2, hT2⟩ : ∃ T2, T2 = (T + R) % 18446744073709551616 := ⟨_, rfl⟩
            obtain ⟨D, hD⟩ : ∃ D, D = ix - T := ⟨_, rfl⟩
            obtain ⟨Q, hQ⟩ : ∃ Q, Q = (q' + R) % 18446744073709551616 := ⟨_, rfl⟩
            rw [← hT2] at f1 hgo
            rw [← hD] at f2 hgo
            rw [← hQ] at f3 hgo
            have hQl : Q < 18446744073709551616 := by rw [hQ]; exact Nat.mod_lt _ (by decide)
            have f4 : IntKind.u64.wrap ((D : Int) * 2) = ((D * 2 % 18446744073709551616 : Nat) : Int) := by rw [← wrap_u64_nat, Int.natCast_mul]; rfl
            obtain ⟨I, hI⟩ : ∃ I, I = D * 2 % 18446744073709551616 := ⟨_, rfl⟩
            rw [← hI] at f4 hgo
            have hIl : I < 18446744073709551616 := by rw [hI]; exact Nat.mod_lt _ (by decide)
            obtain ⟨R2, hR2⟩ : ∃ R2, R2 = sqR k := ⟨_, rfl⟩
            rw [← hR2] at eR2 hlt
            have HG := Lib.hid hgo
            have HR2 := Lib.hid hR2
            clear hgo hR hT hT2 hD hQ hI hR2 eR HL
            go_wp2_with fail
            exact ⟨⟨rfl, k, I, Q, T2, by omega, hIl, hQl, rfl, rfl, rfl, by rw [HR2.out], HG.out⟩, by simp only [intOf]; omega⟩
          · rw [if_neg hle] at hgo
            have c1 : ¬ (T : Int) ≤ (ix : Int) := by omega
            have c2 : decide ((T : Int) ≤ (ix : Int)) = false := decide_eq_false c1
            have c3 : (ix : Int) < (T : Int) := by omega
            have f4 : IntKind.u64.wrap ((ix : Int) * 2) = ((ix * 2 % 18446744073709551616 : Nat) : Int) := by rw [← wrap_u64_nat, Int.natCast_mul]; rfl
            obtain ⟨I, hI⟩ : ∃ I, I = ix * 2 % 18446744073709551616 := ⟨_, rfl⟩
            rw [← hI] at f4 hgo
            have hIl : I < 18446744073709551616 := by rw [hI]; exact Nat.mod_lt _ (by decide)
            obtain ⟨R2, hR2⟩ : ∃ R2, R2 = sqR k := ⟨_, rfl⟩
            rw [← hR2] at eR2 hlt
            have HG := Lib.hid hgo
            have HR2 := Lib.hid hR2
            clear hgo hR hT hI hR2 eR HL hle c1
            go_wp2_with fail
            exact ⟨⟨rfl, k, I, q', s, by omega, hIl, hq'l, rfl, rfl, rfl, by rw [HR2.out], HG.out⟩, by simp only [intOf]; omega⟩
    · have hi3 : ix2 * 2 % 18446744073709551616 = ix3 := by simpa [show bits .and .i64 e1 1 = 1 from by simpa using hod] using H9.out
      have f0 : IntKind.u64.wrap ((ix2 : Int) * 2) = (ix3 : Int) := by rw [← hi3, ← wrap_u64_nat, Int.natCast_mul]; rfl
      have f1 : IntKind.u64.wrap ((ix3 : Int) * 2) = ((ix3 * 2 % 18446744073709551616 : Nat) : Int) := by rw [← wrap_u64_nat, Int.natCast_mul]; rfl
      obtain ⟨I0, hI0⟩ : ∃ I0, I0 = ix3 * 2 % 18446744073709551616 := ⟨_, rfl⟩
      have hI0l : I0 < 18446744073709551616 := by rw [hI0]; exact Nat.mod_lt _ (by decide)
      rw [← hI0] at f1 HL
      clear hI0 hi3
      go_enter Try.func67, Try.ntmps67
      go_wp2_with (first | (go_at_call 53; refine (isNaN_any x w q2).mono ?_; rintro e w' ⟨rfl, rfl⟩) | (go_at_call 58; refine (isPosInf_any x w q3).mono ?_; rintro e w' ⟨rfl, rfl⟩) | (go_at_call 66; refine (twinBits_any _ w).mono ?_; rintro e w' ⟨rfl, rfl⟩) | (go_at_call 46; refine (twinFrom_any _ w).mono ?_; rintro e w' ⟨rfl, rfl⟩))
      go_loopw [3, 5, 6, 7, 8] (fun v3 v5 v6 v7 v8 wr => SqRel i0 q0 w wr v3 v5 v6 v7 v8) (fun _ _ _ r _ _ => (intOf r).toNat)
      case atStart => exact ⟨rfl, 54, I0, 0, 0, by omega, hI0l, by decide, rfl, rfl, rfl, by rw [hs0]; rfl, HL.out⟩
      case round =>
        obtain ⟨rfl, n, ix, q', s, hn, hix, hq'l, rfl, rfl, rfl, rfl, hgo⟩ := hrel
        cases n with
        | zero =>
          have e0' : sqR 0 = 0 := rfl
          have hg : ix = i0 ∧ q' = q0 := by simpa [sqGo] using hgo
          obtain ⟨rfl, rfl⟩ := hg
          rw [e0']
          have H11' := H11.out
          by_cases hz : ix = 0
          · subst hz
            have hq : q' = q := by simpa using H11'
            subst hq
            have HF' := HF.out
            have HO' := HO.out
            go_wp2_with (go_at_call 46; refine (twinFrom_any _ w).mono ?_; rintro e w' ⟨rfl, rfl⟩)
            go_ret
            exact ⟨rfl, rfl⟩
          · have hz' : ((ix : Int) == 0) = false := by simpa using hz
            have hz2 : ¬ (ix : Int) = 0 := by simpa using hz
            have hq : (q' + q' % 2) % 18446744073709551616 = q := by simpa [hz] using H11'
            have hq1 : IntKind.u64.wrap ((q' : Int) + bits .and .u64 (q' : Int) 1) = (q : Int) := by
              have hb : bits .and .u64 (q' : Int) 1 = ((q' % 2 : Nat) : Int) := by
                rw [show (1 : Int) = ((1 : Nat) : Int) from rfl, u64_and_nat q' 1 (hq'l) (by decide), Nat.and_one_is_mod]
              rw [hb, ← Int.natCast_add, wrap_u64_nat, hq]
            have HF' := HF.out
            have HO' := HO.out
            go_wp2_with (go_at_call 46; refine (twinFrom_any _ w).mono ?_; rintro e w' ⟨rfl, rfl⟩)
            go_ret
            exact ⟨rfl, rfl⟩
        | succ k =>
          obtain ⟨R, hR⟩ : ∃ R, R = 2 ^ k := ⟨_, rfl⟩
          have hR0 : 0 < R := by rw [hR]; exact Nat.two_pow_pos k
          have eR : sqR (k + 1) = R := by unfold sqR; rw [if_neg (by omega), hR]; rfl
          have eR2 : (R : Int) / 2 = ((sqR k : Nat) : Int) := by
            unfold sqR
            cases k with
            | zero => rw [hR]; rfl
            | succ j => rw [hR, if_neg (by omega), Nat.pow_succ]; simp
          have hlt : sqR k < R := by
            unfold sqR
            cases k with
            | zero => rw [if_pos rfl]; exact hR0
            | succ j => rw [hR, if_neg (by omega), Nat.pow_succ]; have := Nat.two_pow_pos j; simp; omega
          rw [eR]
          have hRz : ¬ (R : Int) = 0 := by omega
          have hRz' : ((R : Int) == 0) = false := by simpa using hRz
          unfold sqGo at hgo
          rw [← hR] at hgo
          obtain ⟨T, hT⟩ : ∃ T, T = (s + R) % 18446744073709551616 := ⟨_, rfl⟩
          rw [← hT] at hgo
          have fT : IntKind.u64.wrap ((s : Int) + (R : Int)) = (T : Int) := by rw [hT, ← wrap_u64_nat, Int.natCast_add]
          by_cases hle : T ≤ ix
          · rw [if_pos hle] at hgo
            have c1 : (T : Int) ≤ (ix : Int) := by omega
            have f1 : IntKind.u64.wrap ((T : Int) + (R : Int)) = (((T + R) % 18446744073709551616 : Nat) : Int) := by rw [← wrap_u64_nat, Int.natCast_add]
            have f2 : IntKind.u64.wrap ((ix : Int) - (T : Int)) = ((ix - T : Nat) : Int) := by rw [← Int.natCast_sub hle, wrap_u64_nat, Nat.mod_eq_of_lt (by omega)]
            have f3 : IntKind.u64.wrap ((q' : Int) + (R : Int)) = (((q' + R) % 18446744073709551616 : Nat) : Int) := by rw [← wrap_u64_nat, Int.natCast_add]
            obtain ⟨T2, hT2⟩ : ∃ T2, T2 = (T + R) % 18446744073709551616 := ⟨_, rfl⟩
            obtain ⟨D, hD⟩ : ∃ D, D = ix - T := ⟨_, rfl⟩
            obtain ⟨Q, hQ⟩ : ∃ Q, Q = (q' + R) % 18446744073709551616 := ⟨_, rfl⟩
            rw [← hT2] at f1 hgo
            rw [← hD] at f2 hgo
            rw [← hQ] at f3 hgo
            have hQl : Q < 18446744073709551616 := by rw [hQ]; exact Nat.mod_lt _ (by decide)
            have f4 : IntKind.u64.wrap ((D : Int) * 2) = ((D * 2 % 18446744073709551616 : Nat) : Int) := by rw [← wrap_u64_nat, Int.natCast_mul]; rfl
            obtain ⟨I, hI⟩ : ∃ I, I = D * 2 % 18446744073709551616 := ⟨_, rfl⟩
            rw [← hI] at f4 hgo
            have hIl : I < 18446744073709551616 := by rw [hI]; exact Nat.mod_lt _ (by decide)
            obtain ⟨R2, hR2⟩ : ∃ R2, R2 = sqR k := ⟨_, rfl⟩
            rw [← hR2] at eR2 hlt
            have HG := Lib.hid hgo
            have HR2 := Lib.hid hR2
            clear hgo hR hT hT2 hD hQ hI hR2 eR HL
            go_wp2_with fail
            exact ⟨⟨rfl, k, I, Q, T2, by omega, hIl, hQl, rfl, rfl, rfl, by rw [HR2.out], HG.out⟩, by simp only [intOf]; omega⟩
          · rw [if_neg hle] at hgo
            have c1 : ¬ (T : Int) ≤ (ix : Int) := by omega
            have c2 : decide ((T : Int) ≤ (ix : Int)) = false := decide_eq_false c1
            have c3 : (ix : Int) < (T : Int) := by omega
            have f4 : IntKind.u64.wrap ((ix : Int) * 2) = ((ix * 2 % 18446744073709551616 : Nat) : Int) := by rw [← wrap_u64_nat, Int.natCast_mul]; rfl
            obtain ⟨I, hI⟩ : ∃ I, I = ix * 2 % 18446744073709551616 := ⟨_, rfl⟩
            rw [← hI] at f4 hgo
            have hIl : I < 18446744073709551616 := by rw [hI]; exact Nat.mod_lt _ (by decide)
            obtain ⟨R2, hR2⟩ : ∃ R2, R2 = sqR k := ⟨_, rfl⟩
            rw [← hR2] at eR2 hlt
            have HG := Lib.hid hgo
            have HR2 := Lib.hid hR2
            clear hgo hR hT hI hR2 eR HL hle c1
            go_wp2_with fail
            exact ⟨⟨rfl, k, I, q', s, by omega, hIl, hq'l, rfl, rfl, rfl, by rw [HR2.out], HG.out⟩, by simp only [intOf]; omega⟩
  go_enter Try.func60, Try.ntmps60
  go_wp2_with (go_at_call 67; refine (HX w).mono ?_; rintro e w' ⟨rfl, rfl⟩)
  go_ret
  exact ⟨rfl, rfl⟩
end Go.Proofs.Ytgommnmmifgbgaa
end
/-
  The cubic mapping's inverse log. (Printed by gen_idx5.py.)
-/
section
namespace Go.Proofs.Ytgommnmmifgbgaa
open Go.RowKit

/-- (*ddsketch/pub/skmapping.CubicallyInterpolatedMapping).approximateInverseLog, plainly. -/
def invCubF (x : Nat) : Option Nat :=
  (floorF x).bind fun e0 =>
  (fsub x e0).bind fun f1 =>
  (fmul 4605322156423323962 f1).bind fun f2 =>
  (fsub 4606195670930640885 f2).bind fun d1 =>
  (fmul d1 d1).bind fun g1 =>
  (fmul 4616189618054758400 13823793541601948855).bind fun g2 =>
  (fmul g2 13823793541601948855).bind fun g3 =>
  (fmul g3 13823793541601948855).bind fun g4 =>
  (fsub g1 g4).bind fun g5 =>
  (sqrtF g5).bind fun s1 =>
  (fsub d1 s1).bind fun g6 =>
  (fdiv g6 4611686018427387904).bind fun g7 =>
  (cbrtNegF g7).bind fun c =>
  (fadd 13826951575952896819 c).bind fun h1 =>
  (fdiv 13823793541601948855 c).bind fun h2 =>
  (fadd h1 h2).bind fun h3 =>
  (some (negF h3)).bind fun h4 =>
  (fdiv h4 4602807493447714640).bind fun h5 =>
  (fadd h5 4607182418800017408).bind fun s =>
  (floatToIntVal .f64 e0 .i64).bind fun k =>
  some (builtF k s)

set_option maxRecDepth 100000 in
set_option maxHeartbeats 2000000 in
theorem invCub_any (x : Nat) (out : Nat) (p : Value) (w : World) (h : invCubF x = some out) : Calls Try.prog 127 #[p, .float .f64 x] w fun e w' => e = .returned (.float .f64 out) ∧ w = w' := by
  unfold invCubF at h
  simp only [Option.bind_eq_some_iff] at h
  obtain ⟨e0, e1, f1, e2, f2, e3, d1, e4, g1, e5, g2, e6, g3, e7, g4, e8, g5, e9, s1, e10, g6, e11, g7, e12, c, e13, h1, e14, h2, e15, h3, e16, h4, e17, h5, e18, s, e19, k, e20, hout⟩ := h
  have ho0 := Option.some.inj hout
  have q1 := fun w => floor_any x e0 w e1
  have q2 := fun w : World => run_float_arith (P := Try.prog) w .sub 22 .f64 x e0 f1 e2
  have q3 := fun w : World => run_float_arith (P := Try.prog) w .mul 22 .f64 4605322156423323962 f1 f2 e3
  have q4 := fun w : World => run_float_arith (P := Try.prog) w .sub 22 .f64 4606195670930640885 f2 d1 e4
  have q5 := fun w : World => run_float_arith (P := Try.prog) w .mul 22 .f64 d1 d1 g1 e5
  have q6 := fun w : World => run_float_arith (P := Try.prog) w .mul 22 .f64 4616189618054758400 13823793541601948855 g2 e6
  have q7 := fun w : World => run_float_arith (P := Try.prog) w .mul 22 .f64 g2 13823793541601948855 g3 e7
  have q8 := fun w : World => run_float_arith (P := Try.prog) w .mul 22 .f64 g3 13823793541601948855 g4 e8
  have q9 := fun w : World => run_float_arith (P := Try.prog) w .sub 22 .f64 g1 g4 g5 e9
  have q10 := fun w => sqrt_any g5 s1 w e10
  have q11 := fun w : World => run_float_arith (P := Try.prog) w .sub 22 .f64 d1 s1 g6 e11
  have q12 := fun w : World => run_float_arith (P := Try.prog) w .quo 22 .f64 g6 4611686018427387904 g7 e12
  have q13 := fun w => cbrtNeg_any g7 c w e13
  have q14 := fun w : World => run_float_arith (P := Try.prog) w .add 22 .f64 13826951575952896819 c h1 e14
  have q15 := fun w : World => run_float_arith (P := Try.prog) w .quo 22 .f64 13823793541601948855 c h2 e15
  have q16 := fun w : World => run_float_arith (P := Try.prog) w .add 22 .f64 h1 h2 h3 e16
  have q17 := Option.some.inj e17
  have q18 := fun w : World => run_float_arith (P := Try.prog) w .quo 22 .f64 h4 4602807493447714640 h5 e18
  have q19 := fun w : World => run_float_arith (P := Try.prog) w .add 22 .f64 h5 4607182418800017408 s e19
  have q20 := fun w => run_convert_float_int (P := Try.prog) w 22 3 .f64 .i64 e0 k (by simp [Try.underlying22]) Try.underlying3 e20
  clear e1 e2 e3 e4 e5 e6 e7 e8 e9 e10 e11 e12 e13 e14 e15 e16 e17 e18 e19 e20 hout
  subst ho0
  go_enter Try.func127, Try.ntmps127
  go_wp2_with (first | (go_at_call 115; refine (q1 w).mono ?_; rintro e w' ⟨rfl, rfl⟩) | (go_at_call 60; refine (q10 w).mono ?_; rintro e w' ⟨rfl, rfl⟩) | (go_at_call 128; refine (q13 w).mono ?_; rintro e w' ⟨rfl, rfl⟩) | (go_at_call 116; refine (built_any k s w).mono ?_; rintro e w' ⟨rfl, rfl⟩))
  go_ret
  exact ⟨rfl, rfl⟩
end Go.Proofs.Ytgommnmmifgbgaa
end
/-
  The mappings: Index, LowerBound, RelativeAccuracy, Value, MinIndexableValue, MaxIndexableValue of each kind. (Printed by gen_idx3.py.)
-/
section
namespace Go.Proofs.Ytgommnmmifgbgaa
open Go.RowKit

/-- A mapping's block. -/
def Map5 (t : TypeId) (w : World) (m g off mult mn mx : Nat) : Prop := w.heap[m]? = some (.cells #[.float .f64 g, .float .f64 off, .float .f64 mult, .float .f64 mn, .float .f64 mx] t (0, 0))
theorem map5_cells {t : TypeId} {w : World} {m g off mult mn mx : Nat} (h : Map5 t w m g off mult mn mx) :
    w.cell? ⟨m, 0, none⟩ = some (.float .f64 g) ∧ w.cell? ⟨m, 1, none⟩ = some (.float .f64 off) ∧ w.cell? ⟨m, 2, none⟩ = some (.float .f64 mult) ∧ w.cell? ⟨m, 3, none⟩ = some (.float .f64 mn) ∧ w.cell? ⟨m, 4, none⟩ = some (.float .f64 mx) := by
  unfold Map5 at h
  refine ⟨?_, ?_, ?_, ?_, ?_⟩ <;> (unfold World.cell?; simp [h])

/-- What a call hands back that only reads. -/
def Reads (v : Value) (w : World) (e : Ending) (w' : World) : Prop := e = .returned v ∧ ∃ m, w' = w.drewN m

/-- The whole number of an index from its float. -/
def floorI (x : Nat) : Option Int := (floatToIntVal .f64 x .i64).map fun n => if fge x 0 = true then n else wrap64 (n - 1)


/-- Index of the kind Log, plainly. -/
def idxLogF (off mult v : Nat) : Option Int :=
  (logF v).bind fun l => (fmul l mult).bind fun a => (fadd a off).bind fun x => floorI x

set_option maxRecDepth 100000 in
set_option maxHeartbeats 1000000 in
theorem idxLog_any (m g off mult mn mx v : Nat) (i : Int) (w : World) (hc : Map5 88 w m g off mult mn mx) (h : idxLogF off mult v = some i) :
    Calls Try.prog 93 #[.pointer (some ⟨m, 0, none⟩), .float .f64 v] w fun e w' => Reads (.int .i64 i) w e w' := by
  unfold idxLogF at h
  simp only [Option.bind_eq_some_iff] at h
  obtain ⟨l, hl, a, ha, x, hx, hi⟩ := h
  have qa := fun w : World => run_float_arith (P := Try.prog) w .mul 22 .f64 l mult a ha
  have qx := fun w : World => run_float_arith (P := Try.prog) w .add 22 .f64 a off x hx
  unfold floorI at hi
  obtain ⟨n, hn, he⟩ := Option.map_eq_some_iff.1 hi
  have qn := fun w => run_convert_float_int (P := Try.prog) w 22 3 .f64 .i64 x n (by simp [Try.underlying22]) Try.underlying3 hn
  obtain ⟨hg, ho, hm, -, -⟩ := map5_cells hc
  clear ha hx hi hn hc
  cases hs : fge x 0
  · have hs' : (FloatKind.f64.format.order x 0 == some .gt || FloatKind.f64.format.order x 0 == some .eq) = false := hs
    rw [hs] at he
    have he' : wrap64 (n - 1) = i := he
    clear he hs
    go_enter Try.func93, Try.ntmps93
    go_wp2_with fail
    go_quiet (first | (go_at_call 39; refine quiet_of_eq (log_any v l _ hl)))
    go_wp2
    go_ret
    exact ⟨by rw [← he']; rfl, _, rfl⟩
  · have hs' : (FloatKind.f64.format.order x 0 == some .gt || FloatKind.f64.format.order x 0 == some .eq) = true := hs
    rw [hs] at he
    have he' : n = i := he
    clear he hs
    go_enter Try.func93, Try.ntmps93
    go_wp2_with fail
    go_quiet (first | (go_at_call 39; refine quiet_of_eq (log_any v l _ hl)))
    go_wp2
    go_ret
    exact ⟨by rw [← he']; rfl, _, rfl⟩

/-- LowerBound of the kind Log, plainly. -/
def lowerLogF (off mult : Nat) (i : Int) : Option Nat :=
  (fsub (floatOfInt .f64 i) off).bind fun d => (fdiv d mult).bind fun x => expF x

set_option maxRecDepth 100000 in
set_option maxHeartbeats 1000000 in
theorem lowerLog_any (m g off mult mn mx : Nat) (i : Int) (r : Nat) (w : World) (hc : Map5 88 w m g off mult mn mx) (h : lowerLogF off mult i = some r) :
    Calls Try.prog 94 #[.pointer (some ⟨m, 0, none⟩), .int .i64 i] w fun e w' => Reads (.float .f64 r) w e w' := by
  unfold lowerLogF at h
  simp only [Option.bind_eq_some_iff] at h
  obtain ⟨d, hd, x, hx, hr⟩ := h
  obtain ⟨k, hk⟩ : ∃ k, floatOfInt .f64 i = k := ⟨_, rfl⟩
  rw [hk] at hd
  have qd := fun w : World => run_float_arith (P := Try.prog) w .sub 22 .f64 k off d hd
  have qx := fun w : World => run_float_arith (P := Try.prog) w .quo 22 .f64 d mult x hx
  obtain ⟨hg, ho, hm, -, -⟩ := map5_cells hc
  clear hd hx hc
  go_enter Try.func94, Try.ntmps94
  go_wp2_with fail
  go_quiet (first | (go_at_call 41; refine quiet_of_eq (exp_any x r _ hr)))
  go_wp2
  go_ret
  exact ⟨rfl, _, rfl⟩


/-- RelativeAccuracy of the kind Log, plainly. -/
def accLogF (g : Nat) : Option Nat :=
  (fadd 4607182418800017408 g).bind fun a => (fdiv 4611686018427387904 a).bind fun b => fsub 4607182418800017408 b

set_option maxRecDepth 100000 in
set_option maxHeartbeats 1000000 in
theorem accLog_any (m g off mult mn mx : Nat) (r : Nat) (w : World) (hc : Map5 88 w m g off mult mn mx) (h : accLogF g = some r) :
    Calls Try.prog 97 #[.pointer (some ⟨m, 0, none⟩)] w fun e w' => e = .returned (.float .f64 r) ∧ w = w' := by
  unfold accLogF at h
  simp only [Option.bind_eq_some_iff] at h
  obtain ⟨a, ha, b, hb, hr⟩ := h
  have qa := fun w : World => run_float_arith (P := Try.prog) w .add 22 .f64 4607182418800017408 g a ha
  have qb := fun w : World => run_float_arith (P := Try.prog) w .quo 22 .f64 4611686018427387904 a b hb
  have qr := fun w : World => run_float_arith (P := Try.prog) w .sub 22 .f64 4607182418800017408 b r hr
  obtain ⟨hg, -, -, -, -⟩ := map5_cells hc
  clear ha hb hr hc
  go_enter Try.func97, Try.ntmps97
  go_wp2_with fail
  go_ret
  exact ⟨rfl, rfl⟩

/-- Value of the kind Log, plainly. -/
def valueLogF (g off mult : Nat) (i : Int) : Option Nat :=
  (lowerLogF off mult i).bind fun l => (accLogF g).bind fun a => (fadd 4607182418800017408 a).bind fun b => fmul l b

set_option maxRecDepth 100000 in
set_option maxHeartbeats 1000000 in
theorem valueLog_any (m g off mult mn mx : Nat) (i : Int) (r : Nat) (w : World) (hc : Map5 88 w m g off mult mn mx) (h : valueLogF g off mult i = some r) :
    Calls Try.prog 98 #[.pointer (some ⟨m, 0, none⟩), .int .i64 i] w fun e w' => Reads (.float .f64 r) w e w' := by
  unfold valueLogF at h
  simp only [Option.bind_eq_some_iff] at h
  obtain ⟨l, hl, a, ha, b, hb, hr⟩ := h
  have qb := fun w : World => run_float_arith (P := Try.prog) w .add 22 .f64 4607182418800017408 a b hb
  have qr := fun w : World => run_float_arith (P := Try.prog) w .mul 22 .f64 l b r hr
  have HL := lowerLog_any m g off mult mn mx i l w hc hl
  have HA := fun k => accLog_any m g off mult mn mx a (w.drewN k) hc ha
  clear hb hr hl ha hc
  go_enter Try.func98, Try.ntmps98
  go_wp2_with (first | (go_at_call 94; refine HL.mono ?_; rintro e w' ⟨rfl, k, rfl⟩) | (go_at_call 97; refine (HA _).mono ?_; rintro e w' ⟨rfl, rfl⟩))
  go_ret
  exact ⟨rfl, _, rfl⟩

set_option maxRecDepth 100000 in
theorem leastLog_any (m g off mult mn mx : Nat) (w : World) (hc : Map5 88 w m g off mult mn mx) :
    Calls Try.prog 96 #[.pointer (some ⟨m, 0, none⟩)] w fun e w' => e = .returned (.float .f64 mn) ∧ w = w' := by
  obtain ⟨-, -, -, hg, -⟩ := map5_cells hc
  clear hc
  go_enter Try.func96, Try.ntmps96
  go_wp2
  go_ret
  exact ⟨rfl, rfl⟩

set_option maxRecDepth 100000 in
theorem mostLog_any (m g off mult mn mx : Nat) (w : World) (hc : Map5 88 w m g off mult mn mx) :
    Calls Try.prog 95 #[.pointer (some ⟨m, 0, none⟩)] w fun e w' => e = .returned (.float .f64 mx) ∧ w = w' := by
  obtain ⟨-, -, -, -, hg⟩ := map5_cells hc
  clear hc
  go_enter Try.func95, Try.ntmps95
  go_wp2
  go_ret
  exact ⟨rfl, rfl⟩


/-- Index of the kind Lin, plainly. -/
def idxLinF (off mult v : Nat) : Option Int :=
  (logLinF v).bind fun l => (fmul l mult).bind fun a => (fadd a off).bind fun x => floorI x

set_option maxRecDepth 100000 in
set_option maxHeartbeats 1000000 in
theorem idxLin_any (m g off mult mn mx v : Nat) (i : Int) (w : World) (hc : Map5 89 w m g off mult mn mx) (h : idxLinF off mult v = some i) :
    Calls Try.prog 105 #[.pointer (some ⟨m, 0, none⟩), .float .f64 v] w fun e w' => Reads (.int .i64 i) w e w' := by
  unfold idxLinF at h
  simp only [Option.bind_eq_some_iff] at h
  obtain ⟨l, hl, a, ha, x, hx, hi⟩ := h
  have qa := fun w : World => run_float_arith (P := Try.prog) w .mul 22 .f64 l mult a ha
  have qx := fun w : World => run_float_arith (P := Try.prog) w .add 22 .f64 a off x hx
  unfold floorI at hi
  obtain ⟨n, hn, he⟩ := Option.map_eq_some_iff.1 hi
  have qn := fun w => run_convert_float_int (P := Try.prog) w 22 3 .f64 .i64 x n (by simp [Try.underlying22]) Try.underlying3 hn
  obtain ⟨hg, ho, hm, -, -⟩ := map5_cells hc
  clear ha hx hi hn hc
  cases hs : fge x 0
  · have hs' : (FloatKind.f64.format.order x 0 == some .gt || FloatKind.f64.format.order x 0 == some .eq) = false := hs
    rw [hs] at he
    have he' : wrap64 (n - 1) = i := he
    clear he hs
    go_enter Try.func105, Try.ntmps105
    go_wp2_with fail
    go_quiet (first | (go_at_call 111; refine quiet_of_eq (logLin_any v l _ _ hl)))
    go_wp2
    go_ret
    exact ⟨by rw [← he']; rfl, _, rfl⟩
  · have hs' : (FloatKind.f64.format.order x 0 == some .gt || FloatKind.f64.format.order x 0 == some .eq) = true := hs
    rw [hs] at he
    have he' : n = i := he
    clear he hs
    go_enter Try.func105, Try.ntmps105
    go_wp2_with fail
    go_quiet (first | (go_at_call 111; refine quiet_of_eq (logLin_any v l _ _ hl)))
    go_wp2
    go_ret
    exact ⟨by rw [← he']; rfl, _, rfl⟩

/-- LowerBound of the kind Lin, plainly. -/
def lowerLinF (off mult : Nat) (i : Int) : Option Nat :=
  (fsub (floatOfInt .f64 i) off).bind fun d => (fdiv d mult).bind fun x => invLinF x

set_option maxRecDepth 100000 in
set_option maxHeartbeats 1000000 in
theorem lowerLin_any (m g off mult mn mx : Nat) (i : Int) (r : Nat) (w : World) (hc : Map5 89 w m g off mult mn mx) (h : lowerLinF off mult i = some r) :
    Calls Try.prog 106 #[.pointer (some ⟨m, 0, none⟩), .int .i64 i] w fun e w' => Reads (.float .f64 r) w e w' := by
  unfold lowerLinF at h
  simp only [Option.bind_eq_some_iff] at h
  obtain ⟨d, hd, x, hx, hr⟩ := h
  obtain ⟨k, hk⟩ : ∃ k, floatOfInt .f64 i = k := ⟨_, rfl⟩
  rw [hk] at hd
  have qd := fun w : World => run_float_arith (P := Try.prog) w .sub 22 .f64 k off d hd
  have qx := fun w : World => run_float_arith (P := Try.prog) w .quo 22 .f64 d mult x hx
  obtain ⟨hg, ho, hm, -, -⟩ := map5_cells hc
  clear hd hx hc
  go_enter Try.func106, Try.ntmps106
  go_wp2_with fail
  go_quiet (first | (go_at_call 112; refine quiet_of_eq (invLin_any x r _ _ hr)))
  go_wp2
  go_ret
  exact ⟨rfl, _, rfl⟩


/-- RelativeAccuracy of the kind Lin, plainly. -/
def accLinF (g : Nat) : Option Nat :=
  (log2F g).bind fun l => (expF l).bind fun e0 => (fadd 4607182418800017408 e0).bind fun a => (fdiv 4611686018427387904 a).bind fun b => fsub 4607182418800017408 b

set_option maxRecDepth 100000 in
set_option maxHeartbeats 1000000 in
theorem accLin_any (m g off mult mn mx : Nat) (r : Nat) (w : World) (hc : Map5 89 w m g off mult mn mx) (h : accLinF g = some r) :
    Calls Try.prog 109 #[.pointer (some ⟨m, 0, none⟩)] w fun e w' => e = .returned (.float .f64 r) ∧ w = w' := by
  unfold accLinF at h
  simp only [Option.bind_eq_some_iff] at h
  obtain ⟨l, hl, e0, he0, a, ha, b, hb, hr⟩ := h
  have qa := fun w : World => run_float_arith (P := Try.prog) w .add 22 .f64 4607182418800017408 e0 a ha
  have qb := fun w : World => run_float_arith (P := Try.prog) w .quo 22 .f64 4611686018427387904 a b hb
  have qr := fun w : World => run_float_arith (P := Try.prog) w .sub 22 .f64 4607182418800017408 b r hr
  obtain ⟨hg, -, -, -, -⟩ := map5_cells hc
  clear ha hb hr hc
  go_enter Try.func109, Try.ntmps109
  go_wp2_with (first | (go_at_call 34; refine (log2_any g l _ hl).mono ?_; rintro e w' ⟨rfl, rfl⟩) | (go_at_call 41; refine (exp_any l e0 _ he0).mono ?_; rintro e w' ⟨rfl, rfl⟩))
  go_ret
  exact ⟨rfl, rfl⟩

/-- Value of the kind Lin, plainly. -/
def valueLinF (g off mult : Nat) (i : Int) : Option Nat :=
  (lowerLinF off mult i).bind fun l => (accLinF g).bind fun a => (fadd 4607182418800017408 a).bind fun b => fmul l b

set_option maxRecDepth 100000 in
set_option maxHeartbeats 1000000 in
theorem valueLin_any (m g off mult mn mx : Nat) (i : Int) (r : Nat) (w : World) (hc : Map5 89 w m g off mult mn mx) (h : valueLinF g off mult i = some r) :
    Calls Try.prog 110 #[.pointer (some ⟨m, 0, none⟩), .int .i64 i] w fun e w' => Reads (.float .f64 r) w e w' := by
  unfold valueLinF at h
  simp only [Option.bind_eq_some_iff] at h
  obtain ⟨l, hl, a, ha, b, hb, hr⟩ := h
  have qb := fun w : World => run_float_arith (P := Try.prog) w .add 22 .f64 4607182418800017408 a b hb
  have qr := fun w : World => run_float_arith (P := Try.prog) w .mul 22 .f64 l b r hr
  have HL := lowerLin_any m g off mult mn mx i l w hc hl
  have HA := fun k => accLin_any m g off mult mn mx a (w.drewN k) hc ha
  clear hb hr hl ha hc
  go_enter Try.func110, Try.ntmps110
  go_wp2_with (first | (go_at_call 106; refine HL.mono ?_; rintro e w' ⟨rfl, k, rfl⟩) | (go_at_call 109; refine (HA _).mono ?_; rintro e w' ⟨rfl, rfl⟩))
  go_ret
  exact ⟨rfl, _, rfl⟩

set_option maxRecDepth 100000 in
theorem leastLin_any (m g off mult mn mx : Nat) (w : World) (hc : Map5 89 w m g off mult mn mx) :
    Calls Try.prog 108 #[.pointer (some ⟨m, 0, none⟩)] w fun e w' => e = .returned (.float .f64 mn) ∧ w = w' := by
  obtain ⟨-, -, -, hg, -⟩ := map5_cells hc
  clear hc
  go_enter Try.func108, Try.ntmps108
  go_wp2
  go_ret
  exact ⟨rfl, rfl⟩

set_option maxRecDepth 100000 in
theorem mostLin_any (m g off mult mn mx : Nat) (w : World) (hc : Map5 89 w m g off mult mn mx) :
    Calls Try.prog 107 #[.pointer (some ⟨m, 0, none⟩)] w fun e w' => e = .returned (.float .f64 mx) ∧ w = w' := by
  obtain ⟨-, -, -, -, hg⟩ := map5_cells hc
  clear hc
  go_enter Try.func107, Try.ntmps107
  go_wp2
  go_ret
  exact ⟨rfl, rfl⟩


/-- Index of the kind Cub, plainly. -/
def idxCubF (off mult v : Nat) : Option Int :=
  (logCubF v).bind fun l => (fmul l mult).bind fun a => (fadd a off).bind fun x => floorI x

set_option maxRecDepth 100000 in
set_option maxHeartbeats 1000000 in
theorem idxCub_any (m g off mult mn mx v : Nat) (i : Int) (w : World) (hc : Map5 90 w m g off mult mn mx) (h : idxCubF off mult v = some i) :
    Calls Try.prog 120 #[.pointer (some ⟨m, 0, none⟩), .float .f64 v] w fun e w' => Reads (.int .i64 i) w e w' := by
  unfold idxCubF at h
  simp only [Option.bind_eq_some_iff] at h
  obtain ⟨l, hl, a, ha, x, hx, hi⟩ := h
  have qa := fun w : World => run_float_arith (P := Try.prog) w .mul 22 .f64 l mult a ha
  have qx := fun w : World => run_float_arith (P := Try.prog) w .add 22 .f64 a off x hx
  unfold floorI at hi
  obtain ⟨n, hn, he⟩ := Option.map_eq_some_iff.1 hi
  have qn := fun w => run_convert_float_int (P := Try.prog) w 22 3 .f64 .i64 x n (by simp [Try.underlying22]) Try.underlying3 hn
  obtain ⟨hg, ho, hm, -, -⟩ := map5_cells hc
  clear ha hx hi hn hc
  cases hs : fge x 0
  · have hs' : (FloatKind.f64.format.order x 0 == some .gt || FloatKind.f64.format.order x 0 == some .eq) = false := hs
    rw [hs] at he
    have he' : wrap64 (n - 1) = i := he
    clear he hs
    go_enter Try.func120, Try.ntmps120
    go_wp2_with fail
    go_quiet (first | (go_at_call 126; refine quiet_of_eq (logCub_any v l _ _ hl)))
    go_wp2
    go_ret
    exact ⟨by rw [← he']; rfl, _, rfl⟩
  · have hs' : (FloatKind.f64.format.order x 0 == some .gt || FloatKind.f64.format.order x 0 == some .eq) = true := hs
    rw [hs] at he
    have he' : n = i := he
    clear he hs
    go_enter Try.func120, Try.ntmps120
    go_wp2_with fail
    go_quiet (first | (go_at_call 126; refine quiet_of_eq (logCub_any v l _ _ hl)))
    go_wp2
    go_ret
    exact ⟨by rw [← he']; rfl, _, rfl⟩

/-- LowerBound of the kind Cub, plainly. -/
def lowerCubF (off mult : Nat) (i : Int) : Option Nat :=
  (fsub (floatOfInt .f64 i) off).bind fun d => (fdiv d mult).bind fun x => invCubF x

set_option maxRecDepth 100000 in
set_option maxHeartbeats 1000000 in
theorem lowerCub_any (m g off mult mn mx : Nat) (i : Int) (r : Nat) (w : World) (hc : Map5 90 w m g off mult mn mx) (h : lowerCubF off mult i = some r) :
    Calls Try.prog 121 #[.pointer (some ⟨m, 0, none⟩), .int .i64 i] w fun e w' => Reads (.float .f64 r) w e w' := by
  unfold lowerCubF at h
  simp only [Option.bind_eq_some_iff] at h
  obtain ⟨d, hd, x, hx, hr⟩ := h
  obtain ⟨k, hk⟩ : ∃ k, floatOfInt .f64 i = k := ⟨_, rfl⟩
  rw [hk] at hd
  have qd := fun w : World => run_float_arith (P := Try.prog) w .sub 22 .f64 k off d hd
  have qx := fun w : World => run_float_arith (P := Try.prog) w .quo 22 .f64 d mult x hx
  obtain ⟨hg, ho, hm, -, -⟩ := map5_cells hc
  clear hd hx hc
  go_enter Try.func121, Try.ntmps121
  go_wp2_with fail
  go_quiet (first | (go_at_call 127; refine quiet_of_eq (invCub_any x r _ _ hr)))
  go_wp2
  go_ret
  exact ⟨rfl, _, rfl⟩


/-- RelativeAccuracy of the kind Cub, plainly. -/
def accCubF (g : Nat) : Option Nat :=
  (log2F g).bind fun l => (fmul 4604480259023595110 l).bind fun q => (expF q).bind fun e0 => (fadd 4607182418800017408 e0).bind fun a => (fdiv 4611686018427387904 a).bind fun b => fsub 4607182418800017408 b

set_option maxRecDepth 100000 in
set_option maxHeartbeats 1000000 in
theorem accCub_any (m g off mult mn mx : Nat) (r : Nat) (w : World) (hc : Map5 90 w m g off mult mn mx) (h : accCubF g = some r) :
    Calls Try.prog 124 #[.pointer (some ⟨m, 0, none⟩)] w fun e w' => e = .returned (.float .f64 r) ∧ w = w' := by
  unfold accCubF at h
  simp only [Option.bind_eq_some_iff] at h
  obtain ⟨l, hl, q, hq, e0, he0, a, ha, b, hb, hr⟩ := h
  have qq := fun w : World => run_float_arith (P := Try.prog) w .mul 22 .f64 4604480259023595110 l q hq
  have qa := fun w : World => run_float_arith (P := Try.prog) w .add 22 .f64 4607182418800017408 e0 a ha
  have qb := fun w : World => run_float_arith (P := Try.prog) w .quo 22 .f64 4611686018427387904 a b hb
  have qr := fun w : World => run_float_arith (P := Try.prog) w .sub 22 .f64 4607182418800017408 b r hr
  obtain ⟨hg, -, -, -, -⟩ := map5_cells hc
  clear ha hb hr hc hq
  go_enter Try.func124, Try.ntmps124
  go_wp2_with (first | (go_at_call 34; refine (log2_any g l _ hl).mono ?_; rintro e w' ⟨rfl, rfl⟩) | (go_at_call 41; refine (exp_any q e0 _ he0).mono ?_; rintro e w' ⟨rfl, rfl⟩))
  go_ret
  exact ⟨rfl, rfl⟩

/-- Value of the kind Cub, plainly. -/
def valueCubF (g off mult : Nat) (i : Int) : Option Nat :=
  (lowerCubF off mult i).bind fun l => (accCubF g).bind fun a => (fadd 4607182418800017408 a).bind fun b => fmul l b

set_option maxRecDepth 100000 in
set_option maxHeartbeats 1000000 in
theorem valueCub_any (m g off mult mn mx : Nat) (i : Int) (r : Nat) (w : World) (hc : Map5 90 w m g off mult mn mx) (h : valueCubF g off mult i = some r) :
    Calls Try.prog 125 #[.pointer (some ⟨m, 0, none⟩), .int .i64 i] w fun e w' => Reads (.float .f64 r) w e w' := by
  unfold valueCubF at h
  simp only [Option.bind_eq_some_iff] at h
  obtain ⟨l, hl, a, ha, b, hb, hr⟩ := h
  have qb := fun w : World => run_float_arith (P := Try.prog) w .add 22 .f64 4607182418800017408 a b hb
  have qr := fun w : World => run_float_arith (P := Try.prog) w .mul 22 .f64 l b r hr
  have HL := lowerCub_any m g off mult mn mx i l w hc hl
  have HA := fun k => accCub_any m g off mult mn mx a (w.drewN k) hc ha
  clear hb hr hl ha hc
  go_enter Try.func125, Try.ntmps125
  go_wp2_with (first | (go_at_call 121; refine HL.mono ?_; rintro e w' ⟨rfl, k, rfl⟩) | (go_at_call 124; refine (HA _).mono ?_; rintro e w' ⟨rfl, rfl⟩))
  go_ret
  exact ⟨rfl, _, rfl⟩

set_option maxRecDepth 100000 in
theorem leastCub_any (m g off mult mn mx : Nat) (w : World) (hc : Map5 90 w m g off mult mn mx) :
    Calls Try.prog 123 #[.pointer (some ⟨m, 0, none⟩)] w fun e w' => e = .returned (.float .f64 mn) ∧ w = w' := by
  obtain ⟨-, -, -, hg, -⟩ := map5_cells hc
  clear hc
  go_enter Try.func123, Try.ntmps123
  go_wp2
  go_ret
  exact ⟨rfl, rfl⟩

set_option maxRecDepth 100000 in
theorem mostCub_any (m g off mult mn mx : Nat) (w : World) (hc : Map5 90 w m g off mult mn mx) :
    Calls Try.prog 122 #[.pointer (some ⟨m, 0, none⟩)] w fun e w' => e = .returned (.float .f64 mx) ∧ w = w' := by
  obtain ⟨-, -, -, -, hg⟩ := map5_cells hc
  clear hc
  go_enter Try.func122, Try.ntmps122
  go_wp2
  go_ret
  exact ⟨rfl, rfl⟩
end Go.Proofs.Ytgommnmmifgbgaa
end
