/-
  The same, more: whole parts, exponents and significands, Ldexp, the root's digits.
-/
import Derived.Test.YtgommnmmifgbgaaGAI
import Derived.Test.YtgommnmmifgbgaaGAD
section
namespace Go.Proofs.Ytgommnmmifgbgaa
open Go.RowKit
open Ieee
set_option exponentiation.threshold 5000

/-- 'int(x)' of a float whose value is known. -/
theorem f2i_fv {x : Nat} {s : Bool} {m e : Nat} (hx : FV x (PV s m e)) (he : e ≤ 1074) (hm : m < 9007199254740992) : floatToIntVal .f64 x .i64 = some ((if s then -1 else 1) * ((m / 2 ^ (1074 - e) : Nat) : Int)) := by
  obtain ⟨-, s1, m1, i1, hr, hv⟩ := hx
  rw [sv_signed] at hv
  obtain ⟨ha, hs⟩ := signed_inj hv
  have hi := (read_number hr).1
  -- what is left of it
  have cutz : ∀ (b : Bool) (n d : Nat), Toward.zero.cut b n d = n / 2 ^ d := by
    intro b n d
    unfold Toward.cut
    by_cases h : d ≤ n.log2 + 2
    · rw [Nat.min_eq_left h, Nat.one_shiftLeft]; simp
    · rw [Nat.min_eq_right (by omega), Nat.one_shiftLeft]
      have hn : n < 2 ^ (n.log2 + 1) := Nat.lt_log2_self
      have h2 : 2 ^ (n.log2 + 1) ≤ 2 ^ (n.log2 + 2) := Nat.pow_le_pow_right (by omega) (by omega)
      have h3 : 2 ^ (n.log2 + 2) ≤ 2 ^ d := Nat.pow_le_pow_right (by omega) (by omega)
      dsimp only
      rw [Nat.div_eq_of_lt (show n < 2 ^ (n.log2 + 2) by omega), Nat.div_eq_of_lt (show n < 2 ^ d by omega)]; simp
  have hw : (m1 <<< i1.toNat) / 2 ^ (-i1).toNat = m / 2 ^ (1074 - e) := by
    obtain ⟨I, hI⟩ : ∃ I : Nat, I = (i1 + 1074).toNat := ⟨_, rfl⟩
    rw [← hI] at ha
    have h1 : m1 * 2 ^ I / 2 ^ 1074 = m * 2 ^ e / 2 ^ 1074 := by rw [ha]
    have h2 : ∀ K, e ≤ K → m * 2 ^ e / 2 ^ K = m / 2 ^ (K - e) := fun K hK => by
      have : 2 ^ K = 2 ^ (K - e) * 2 ^ e := by rw [← Nat.pow_add, Nat.sub_add_cancel hK]
      rw [this, Nat.mul_div_mul_right _ _ (Nat.two_pow_pos e)]
    have h3 : ∀ K, K = 1074 → m1 * 2 ^ I / 2 ^ K = (m1 <<< i1.toNat) / 2 ^ (-i1).toNat := fun K hK => by
      rw [Nat.shiftLeft_eq]
      rcases Int.le_total 0 i1 with h | h
      · have e1 : 2 ^ I = 2 ^ i1.toNat * 2 ^ K := by rw [← Nat.pow_add]; congr 1; omega
        rw [e1, ← Nat.mul_assoc, Nat.mul_div_cancel _ (Nat.two_pow_pos K), show (-i1).toNat = 0 from by omega]; simp
      · have e1 : 2 ^ K = 2 ^ (-i1).toNat * 2 ^ I := by rw [← Nat.pow_add]; congr 1; omega
        rw [e1, Nat.mul_div_mul_right _ _ (Nat.two_pow_pos I), show i1.toNat = 0 from by omega]; simp
    have h2' := h2 1074 he
    have h3' := h3 1074 rfl
    rw [← h3', h1, h2']
  have hlt : m / 2 ^ (1074 - e) < 9007199254740992 := Nat.lt_of_le_of_lt (Nat.div_le_self _ _) hm
  unfold floatToIntVal
  show (match (double.read x).toInt .zero with | some n => if IntKind.i64.min ≤ n ∧ n ≤ IntKind.i64.max then some n else none | none => none) = _
  rw [hr]
  have ht : (Datum.number s1 m1 i1).toInt .zero = some (signed s1 (m / 2 ^ (1074 - e)) 0) := by
    unfold Datum.toInt Datum.integral
    simp only [cutz, hw]
  rw [ht]
  have hsg : signed s1 (m / 2 ^ (1074 - e)) 0 = (if s then -1 else 1) * ((m / 2 ^ (1074 - e) : Nat) : Int) := by
    rw [signed_eq, Int.pow_zero, Int.mul_one]
    by_cases h0 : m1 * 2 ^ (i1 + 1074).toNat = 0
    · have : m / 2 ^ (1074 - e) = 0 := by
        rw [h0] at ha
        rcases Nat.mul_eq_zero.1 ha.symm with h | h
        · rw [h, Nat.zero_div]
        · have := Nat.two_pow_pos e; omega
      rw [this]; simp
    · rw [hs h0]
  rw [hsg]
  have hmin : IntKind.i64.min = -9223372036854775808 := by decide
  have hmax : IntKind.i64.max = 9223372036854775807 := by decide
  dsimp only
  rw [if_pos]
  rw [hmin, hmax]
  generalize m / 2 ^ (1074 - e) = q at hlt
  cases s <;> simp <;> omega

def qf2iN (c x : Nat) (s : Bool) (h : Nat) : Option Int :=
  wn (Nat.div (Nat.add c (Nat.mod x c)) (Nat.pow 2 (Nat.sub 1075 h))) fun n => some (bif s then Int.negOfNat n else Int.ofNat n)

theorem qf2iN_eq (c x : Nat) (s : Bool) (h : Nat) : qf2iN c x s h = some ((if s then -1 else 1) * (((c + x % c) / 2 ^ (1075 - h) : Nat) : Int)) := by
  unfold qf2iN
  rw [wn_eq]
  show some (bif s then Int.negOfNat ((c + x % c) / 2 ^ (1075 - h)) else Int.ofNat ((c + x % c) / 2 ^ (1075 - h))) = _
  cases s
  · rw [cond_false, if_neg (by decide), Int.one_mul, Int.ofNat_eq_natCast]
  · rw [cond_true, if_pos rfl, Int.negOfNat_eq, Int.ofNat_eq_natCast, Int.neg_one_mul]

def qf2iC (c x : Nat) : Option Int :=
  wn (Nat.div x c) fun h =>
  bif Nat.blt 0 h && Nat.ble h 1075 then qf2iN c x false h
  else bif Nat.blt 2048 h && Nat.ble h 3123 then qf2iN c x true (Nat.sub h 2048) else floatToIntVal .f64 x .i64

theorem qf2iC_eq (c x : Nat) : qf2iC c x = bif Nat.blt 0 (x / c) && Nat.ble (x / c) 1075 then some ((if false then -1 else 1) * (((c + x % c) / 2 ^ (1075 - x / c) : Nat) : Int))
    else bif Nat.blt 2048 (x / c) && Nat.ble (x / c) 3123 then some ((if true then -1 else 1) * (((c + x % c) / 2 ^ (1075 - (x / c - 2048)) : Nat) : Int)) else floatToIntVal .f64 x .i64 := by
  unfold qf2iC
  rw [wn_eq]
  rw [qf2iN_eq, qf2iN_eq]
  rfl

def qf2i (x : Nat) : Option Int := qf2iC 4503599627370496 x

theorem f2i_q (x : Nat) : floatToIntVal .f64 x .i64 = qf2i x := by
  unfold qf2i
  rw [qf2iC_eq]
  have hm := Nat.mod_lt x (show 0 < 4503599627370496 by decide)
  cases h1 : Nat.blt 0 (x / 4503599627370496) && Nat.ble (x / 4503599627370496) 1075
  · rw [cond_false]
    cases h2 : Nat.blt 2048 (x / 4503599627370496) && Nat.ble (x / 4503599627370496) 3123
    · rw [cond_false]
    · rw [cond_true]
      rw [Bool.and_eq_true] at h2
      have c1 : 2048 < x / 4503599627370496 := Nat.blt_eq ▸ h2.1
      have c2 : x / 4503599627370496 ≤ 3123 := Nat.le_of_ble_eq_true h2.2
      have := enB_fv true (m := 4503599627370496 + x % 4503599627370496) (e := x / 4503599627370496 - 2049) (by omega) (by omega) (by omega)
      have he : enB true (4503599627370496 + x % 4503599627370496) (x / 4503599627370496 - 2049) = x := by unfold enB; rw [cond_true]; omega
      rw [he] at this
      rw [f2i_fv this (by omega) (by omega), show 1074 - (x / 4503599627370496 - 2049) = 1075 - (x / 4503599627370496 - 2048) from by omega]
  · rw [cond_true]
    rw [Bool.and_eq_true] at h1
    have c1 : 0 < x / 4503599627370496 := Nat.blt_eq ▸ h1.1
    have c2 : x / 4503599627370496 ≤ 1075 := Nat.le_of_ble_eq_true h1.2
    have := enB_fv false (m := 4503599627370496 + x % 4503599627370496) (e := x / 4503599627370496 - 1) (by omega) (by omega) (by omega)
    have he : enB false (4503599627370496 + x % 4503599627370496) (x / 4503599627370496 - 1) = x := by unfold enB; rw [cond_false]; omega
    rw [he] at this
    rw [f2i_fv this (by omega) (by omega), show 1074 - (x / 4503599627370496 - 1) = 1075 - x / 4503599627370496 from by omega]

theorem cancel_c (q c : Nat) (h : 0 < c) : ((q * c : Nat) : Int) / (c : Int) = (q : Int) := by
  rw [← Int.natCast_ediv, Nat.mul_div_cancel _ h]

/-- The exponent, as a float. -/
def qexpo (x : Nat) : Nat := bif posB x then qi2f (Int.subNatNat (Nat.div x 4503599627370496) 1023) else expoF (x : Int)

theorem expo_q (x : Nat) : expoF (x : Int) = qexpo x := by
  unfold qexpo
  cases h : posB x
  · rw [cond_false]
  · obtain ⟨a, b⟩ := posB_is h
    rw [cond_true, ← i2f_q]
    unfold expoF
    have e0 := cancel_c (x / 4503599627370496) 4503599627370496 (by decide)
    rw [show ((4503599627370496 : Nat) : Int) = 4503599627370496 from rfl] at e0
    rw [bit_high x (by omega), e0]
    have hq : x / 4503599627370496 < 2048 := by omega
    have e3 : Nat.div x 4503599627370496 = x / 4503599627370496 := rfl
    rw [e3, Int.subNatNat_eq_coe]
    generalize x / 4503599627370496 = q at hq
    have e2 : wrap64 (wrap64 (q : Int) - 1023) = (q : Int) - ((1023 : Nat) : Int) := by unfold wrap64; omega
    rw [e2]

def qsigni (x : Nat) : Nat := bif Nat.blt x 18446744073709551616 then Nat.add (Nat.mod x 4503599627370496) 4607182418800017408 else signiF (x : Int)

theorem signi_q (x : Nat) : signiF (x : Int) = qsigni x := by
  unfold qsigni
  cases h : Nat.blt x 18446744073709551616
  · rw [cond_false]
  · have c : x < 18446744073709551616 := Nat.blt_eq ▸ h
    rw [cond_true]
    unfold signiF
    rw [bit_low x c]
    have e1 := bit_or (x % 4503599627370496) 1023 (by omega) (by decide) 4607182418800017408 (by decide)
    rw [show ((4607182418800017408 : Nat) : Int) = 4607182418800017408 from rfl] at e1
    rw [e1]
    show x % 4503599627370496 + 1023 * 4503599627370496 = x % 4503599627370496 + 4607182418800017408
    rfl

/-- An exponent above -1023, as a whole number that is counted from there. -/
def qup (k : Int) : Nat := Int.toNat (Int.add k 1023)

def qbuilt (k : Int) (x : Nat) : Nat :=
  wn (qup k) fun n => bif Nat.blt 0 n && (Nat.blt n 2047 && Nat.blt x 18446744073709551616) then wn (Nat.add (Nat.mul n 4503599627370496) (Nat.mod x 4503599627370496)) id else builtF k x

theorem built_q (k : Int) (x : Nat) : builtF k x = qbuilt k x := by
  unfold qbuilt
  rw [wn_eq]
  cases h : Nat.blt 0 (qup k) && (Nat.blt (qup k) 2047 && Nat.blt x 18446744073709551616)
  · rw [cond_false]
  · rw [Bool.and_eq_true, Bool.and_eq_true] at h
    have c1 : 0 < qup k := Nat.blt_eq ▸ h.1
    have c2 : qup k < 2047 := Nat.blt_eq ▸ h.2.1
    have c3 : x < 18446744073709551616 := Nat.blt_eq ▸ h.2.2
    rw [cond_true, wn_eq]
    obtain ⟨n, hn⟩ : ∃ n, n = qup k := ⟨_, rfl⟩
    rw [← hn] at c1 c2 ⊢
    have hk : k = (n : Int) - 1023 := by
      have : qup k = (k + 1023).toNat := rfl
      omega
    unfold builtF
    have e0 : IntKind.u64.wrap (wrap64 (wrap64 (k + 1023) * 4503599627370496)) = ((n * 4503599627370496 : Nat) : Int) := by
      have h1 : wrap64 (k + 1023) = (n : Int) := by unfold wrap64; omega
      rw [h1, IntKind.wrap_u64, Int.natCast_mul, show ((4503599627370496 : Nat) : Int) = 4503599627370496 from rfl]
      unfold wrap64; omega
    rw [e0, bit_high _ (by omega), bit_low x c3, Nat.mul_div_cancel _ (by decide)]
    have e1 := bit_or (x % 4503599627370496) n (by omega) (by omega) (n * 4503599627370496) rfl
    have e2 : bits .or .u64 ((n * 4503599627370496 : Nat) : Int) ((x % 4503599627370496 : Nat) : Int) = bits .or .u64 ((x % 4503599627370496 : Nat) : Int) ((n * 4503599627370496 : Nat) : Int) := by
      rw [u64_or_nat _ _ (by omega) (by omega), u64_or_nat _ _ (by omega) (by omega), Nat.or_comm]
    rw [e2, e1]
    show x % 4503599627370496 + n * 4503599627370496 = n * 4503599627370496 + x % 4503599627370496
    omega
end Go.Proofs.Ytgommnmmifgbgaa
end
/-
  The same, more: Ldexp, the root's digits, the cube root's bits, the other sign.
-/
section
namespace Go.Proofs.Ytgommnmmifgbgaa
open Go.RowKit
open Ieee
set_option exponentiation.threshold 5000

def qneg (x : Nat) : Nat := Nat.xor x 9223372036854775808
theorem neg_q (x : Nat) : negF x = qneg x := by
  have h : (2 : Nat) ^ 63 = 9223372036854775808 := by decide
  show x ^^^ 2 ^ 63 = x ^^^ 9223372036854775808
  rw [h]

theorem mul_one_q {y : Nat} (h1 : 4503599627370496 ≤ y) (h2 : y < 9142307245003341824) : fmul 4607182418800017408 y = some y := by
  have hx : FV 4607182418800017408 (PV false 4503599627370496 1022) := fv_pos (x := 4607182418800017408) (by decide) (by decide)
  have hy := fv_pos h1 (by omega)
  obtain ⟨M, hM⟩ : ∃ M, M = 4503599627370496 + y % 4503599627370496 := ⟨_, rfl⟩
  obtain ⟨e, he⟩ : ∃ e, e = y / 4503599627370496 - 1 := ⟨_, rfl⟩
  rw [← hM, ← he] at hy
  have he2 : e ≤ 2029 := by omega
  have hM1 : 4503599627370496 ≤ M := by omega
  have hM2 : M < 9007199254740992 := by omega
  have hl : M.log2 = 52 := by
    refine (Nat.log2_eq_iff (by omega)).2 ⟨?_, ?_⟩
    · have : (2 : Nat) ^ 52 = 4503599627370496 := by decide
      omega
    · have : (2 : Nat) ^ (52 + 1) = 9007199254740992 := by decide
      omega
  have h52 : (2 : Nat) ^ 52 = 4503599627370496 := by decide
  have hn : 4503599627370496 * M ≠ 0 := by omega
  have hlog : (4503599627370496 * M).log2 = 104 := by
    rw [← h52, Nat.mul_comm, log2_pow_mul _ _ (by omega), hl]
  have hv := PV_mul false false 4503599627370496 M 1022 e
  rw [Bool.xor_self] at hv
  obtain ⟨z, hz, hf⟩ := fmul_fv hx hy (by rw [hv, PV_natAbs, log2_pow_mul _ _ (by omega), hlog]; omega)
  rw [hv, rndI_PV 1074 false _ _ (1074 + e) hn (by rw [hlog]; omega) (by omega)] at hf
  have e1 : 4503599627370496 * M * 2 ^ (1022 + e) = M * 2 ^ (1074 + e) := by
    rw [show 1074 + e = 52 + (1022 + e) from by omega, Nat.pow_add 2 52, h52]
    rw [Nat.mul_comm 4503599627370496 M, Nat.mul_assoc]
  rw [e1, rhe_exact, show 1074 + e - 1074 = e from by omega] at hf
  show floatBits .mul .f64 4607182418800017408 y = some y
  rw [hz, fv_enB hf hM1 (by omega), fv_enB hy hM1 (by omega)]

def qldexpN (c x n : Nat) : Nat := Nat.add (Nat.mul n c) (Nat.mod x c)
def qldexp (x : Nat) (k : Int) : Option Nat :=
  wn (Int.toNat (Int.add k (Int.ofNat (Nat.div x 4503599627370496)))) fun n =>
  bif posB x && (Nat.blt 0 n && Nat.blt n 2030) then wn (qldexpN 4503599627370496 x n) some else ldexpF x k

theorem i64_and_low (n : Int) (c k : Nat) (hk : k ≤ 32) (hc : (c : Int) = 2 ^ k - 1) : bits .and .i64 n (c : Int) = n % 2 ^ k := by
  have hp : 2 ^ k ≤ 2 ^ 32 := Nat.pow_le_pow_right (by decide) hk
  have h32 : (2 : Nat) ^ 32 = 4294967296 := by decide
  have hpos := Nat.two_pow_pos k
  have hcn : c = 2 ^ k - 1 := by
    have : ((2 : Int) ^ k) = ((2 ^ k : Nat) : Int) := by rw [Int.natCast_pow]; rfl
    omega
  have h1 : (BitVec.ofInt 64 (c : Int)).toNat = 2 ^ k - 1 := by
    rw [BitVec.toNat_ofInt, ← hcn]
    have e : (((c : Int)) % ((2 ^ 64 : Nat) : Int)).toNat = c := by
      have : (2 : Nat) ^ 64 = 18446744073709551616 := by decide
      rw [this]; omega
    exact e
  have key : (BitVec.ofInt 64 n &&& BitVec.ofInt 64 (c : Int)).toNat = (n % ((2 ^ 64 : Nat) : Int)).toNat % 2 ^ k := by
    rw [BitVec.toNat_and, BitVec.toNat_ofInt, h1, Nat.and_two_pow_sub_one_eq_mod]
  show IntKind.i64.wrap ((BitVec.ofInt 64 n &&& BitVec.ofInt 64 (c : Int)).toNat : Nat) = n % 2 ^ k
  rw [key, IntKind.wrap_i64]
  have hd : ((2 ^ k : Nat) : Int) ∣ ((2 ^ 64 : Nat) : Int) := Int.natCast_dvd_natCast.2 (Nat.pow_dvd_pow 2 (by omega))
  have e2 : (((n % ((2 ^ 64 : Nat) : Int)).toNat % 2 ^ k : Nat) : Int) = n % ((2 ^ k : Nat) : Int) := by
    have hnn : 0 ≤ n % ((2 ^ 64 : Nat) : Int) := Int.emod_nonneg _ (by have := Nat.two_pow_pos 64; omega)
    rw [Int.natCast_emod, Int.toNat_of_nonneg hnn, Int.emod_emod_of_dvd _ hd]
  rw [e2]
  have e3 : (2 : Int) ^ k = ((2 ^ k : Nat) : Int) := by rw [Int.natCast_pow]; rfl
  rw [e3]
  have b1 := Int.emod_nonneg n (show ((2 ^ k : Nat) : Int) ≠ 0 by omega)
  have b2 := Int.emod_lt_of_pos n (show (0 : Int) < ((2 ^ k : Nat) : Int) by omega)
  generalize n % ((2 ^ k : Nat) : Int) = r at *
  generalize 2 ^ k = P at *
  omega

theorem bit_exp_i (E : Nat) (h : E < 2048) : bits .and .i64 (E : Int) 2047 = (E : Int) := by
  have := i64_and_low (E : Int) 2047 11 (by decide) (by decide)
  rw [show ((2047 : Nat) : Int) = 2047 from rfl] at this
  rw [this, show (2 : Int) ^ 11 = 2048 from by decide]
  omega

theorem ldexp_q (x : Nat) (k : Int) : ldexpF x k = qldexp x k := by
  unfold qldexp
  rw [wn_eq]
  obtain ⟨n, hn⟩ : ∃ n, n = Int.toNat (Int.add k (Int.ofNat (Nat.div x 4503599627370496))) := ⟨_, rfl⟩
  rw [← hn]
  cases h : posB x && (Nat.blt 0 n && Nat.blt n 2030)
  · rw [cond_false]
  · rw [Bool.and_eq_true, Bool.and_eq_true] at h
    obtain ⟨hp, hn1, hn2⟩ := h
    have c1 : 0 < n := Nat.blt_eq ▸ hn1
    have c2 : n < 2030 := Nat.blt_eq ▸ hn2
    obtain ⟨a, b⟩ := posB_is hp
    rw [cond_true, wn_eq]
    have hx := fv_pos a (by omega)
    have hpv := PV_pos (m := 4503599627370496 + x % 4503599627370496) (e := x / 4503599627370496 - 1) (by omega)
    have g1 : feq x 0 = false := by rw [feq_fv hx fv_zero]; exact decide_eq_false (by omega)
    have g2 : isNum x = true := isNum_fv hx
    have g3 : isFin x = true := by rw [isFin_q]; unfold qisFin; rw [posB_fin hp]; rfl
    have g4 : flt (absF x) 4503599627370496 = false := by
      rw [absF_eq x (by omega), Nat.mod_eq_of_lt (by omega), flt_q]
      unfold qlt
      rw [posB_fin hp, show finB 4503599627370496 = true from by decide, Bool.and_self, cond_true, ble_decide, decide_eq_false (by omega), cond_false, show Nat.ble 9223372036854775808 4503599627370496 = false from by decide, cond_false, blt_decide]
      exact decide_eq_false (by omega)
    obtain ⟨E, hE⟩ : ∃ E, E = x / 4503599627370496 := ⟨_, rfl⟩
    have hn' : n = (k + (E : Int)).toNat := by rw [hn, hE]; rfl
    have hk : k = (n : Int) - (E : Int) := by omega
    have hE2 : E < 2048 := by omega
    have eE : (x : Int) / 4503599627370496 = (E : Int) := by rw [hE]; omega
    have w1 : wrap64 (E : Int) = (E : Int) := by unfold wrap64; omega
    have w2 : wrap64 (wrap64 k + wrap64 ((E : Int) - 1023)) = (n : Int) - 1023 := by rw [hk]; unfold wrap64; omega
    unfold ldexpF
    rw [g1, g2, g3, g4, eE, w1, bit_exp_i E hE2]
    simp only [Option.bind_some, w2, bit_frac x (by omega)]
    have e5 : ((n : Int) - 1023 + 1023) * 4503599627370496 = ((n * 4503599627370496 : Nat) : Int) := by
      rw [Int.natCast_mul, Int.sub_add_cancel]; rfl
    have e1 := bit_or (x % 4503599627370496) n (by omega) (by omega) (n * 4503599627370496) rfl
    rw [e5, e1]
    have hd : (decide (-1022 ≤ (n : Int) - 1023) && decide ((n : Int) - 1023 ≤ 1023)) = true := by
      rw [decide_eq_true (by omega), decide_eq_true (by omega)]; rfl
    rw [hd]
    have hy : qldexpN 4503599627370496 x n = x % 4503599627370496 + n * 4503599627370496 := by
      show n * 4503599627370496 + x % 4503599627370496 = _
      rw [Nat.add_comm]
    rw [hy, Int.toNat_natCast, mul_one_q (y := x % 4503599627370496 + n * 4503599627370496) (by omega) (by omega)]
    rfl

/-- The root's digits, fit to be computed. -/
def qsqGo : Nat → Nat → Nat → Nat → Nat × Nat
  | 0, ix, q, _ => (ix, q)
  | n + 1, ix, q, s => wn (Nat.mod (Nat.add s (Nat.pow 2 n)) 18446744073709551616) fun t =>
    bif Nat.ble t ix then wn (Nat.mod (Nat.mul (Nat.sub ix t) 2) 18446744073709551616) fun ix => wn (Nat.mod (Nat.add q (Nat.pow 2 n)) 18446744073709551616) fun q => wn (Nat.mod (Nat.add t (Nat.pow 2 n)) 18446744073709551616) fun s => qsqGo n ix q s
    else wn (Nat.mod (Nat.mul ix 2) 18446744073709551616) fun ix => qsqGo n ix q s

theorem sqGo_q : ∀ (n ix q s : Nat), sqGo n ix q s = qsqGo n ix q s
  | 0, _, _, _ => rfl
  | n + 1, ix, q, s => by
    unfold sqGo qsqGo
    rw [wn_eq, wn_eq, wn_eq, wn_eq, wn_eq, ble_decide]
    show _ = bif decide ((s + 2 ^ n) % 18446744073709551616 ≤ ix) then qsqGo n ((ix - (s + 2 ^ n) % 18446744073709551616) * 2 % 18446744073709551616) ((q + 2 ^ n) % 18446744073709551616) (((s + 2 ^ n) % 18446744073709551616 + 2 ^ n) % 18446744073709551616) else qsqGo n (ix * 2 % 18446744073709551616) q s
    split
    · rename_i h; rw [decide_eq_true h, cond_true, sqGo_q n]
    · rename_i h; rw [decide_eq_false h, cond_false, sqGo_q n]

def addN (a b : Nat) : Nat := Nat.add a b
theorem addN_eq (a b : Nat) : addN a b = a + b := rfl
def subN (a b : Nat) : Nat := Nat.sub a b
theorem subN_eq (a b : Nat) : subN a b = a - b := rfl
def modN (a b : Nat) : Nat := Nat.mod a b
theorem modN_eq (a b : Nat) : modN a b = a % b := rfl
def divN (a b : Nat) : Nat := Nat.div a b
theorem divN_eq (a b : Nat) : divN a b = a / b := rfl
def mulN (a b : Nat) : Nat := Nat.mul a b
theorem mulN_eq (a b : Nat) : mulN a b = a * b := rfl

def qc0 (y : Nat) : Nat := bif Nat.blt y 9223372036854775808 then wn (addN (divN y 3) 3071306043645493248) id else (IntKind.u64.wrap (IntKind.u64.wrap ((y : Int) / 3) + 3071306043645493248)).toNat
theorem c0_q (y : Nat) : (IntKind.u64.wrap (IntKind.u64.wrap ((y : Int) / 3) + 3071306043645493248)).toNat = qc0 y := by
  unfold qc0
  cases h : Nat.blt y 9223372036854775808
  · rw [cond_false]
  · have c : y < 9223372036854775808 := Nat.blt_eq ▸ h
    rw [cond_true, wn_eq, IntKind.wrap_u64, IntKind.wrap_u64, addN_eq, divN_eq, id_eq]
    omega

def qc1 (t : Nat) : Nat := bif Nat.blt t 18446744072635809792 then wn (addN (subN t (modN t 1073741824)) 1073741824) id else (IntKind.u64.wrap (bits .and .u64 (t : Int) 18446744072635809792 + 1073741824)).toNat
theorem c1_q (t : Nat) : (IntKind.u64.wrap (bits .and .u64 (t : Int) 18446744072635809792 + 1073741824)).toNat = qc1 t := by
  unfold qc1
  cases h : Nat.blt t 18446744072635809792
  · rw [cond_false]
  · have c : t < 18446744072635809792 := Nat.blt_eq ▸ h
    have e0 : bits .and .u64 (t : Int) 18446744072635809792 = ((t - t % 1073741824 : Nat) : Int) := by
      rw [show (18446744072635809792 : Int) = ((18446744072635809792 : Nat) : Int) from rfl, u64_and_nat _ _ (by omega) (by decide)]
      have := and_hi t 30 34
      rw [show ((2 : Nat) ^ 34 - 1) * 2 ^ 30 = 18446744072635809792 from by decide] at this
      rw [this]
      have e30 : (2 : Nat) ^ 30 = 1073741824 := by decide
      have e34 : (2 : Nat) ^ 34 = 17179869184 := by decide
      rw [e30, e34]
      omega
    rw [cond_true, wn_eq, e0, IntKind.wrap_u64, addN_eq, subN_eq, modN_eq, id_eq]
    omega

def qsqEnd (E : Nat) (p : Nat × Nat) : Nat :=
  match p with
  | (i, q) => wn (bif Nat.beq i 0 then q else modN (addN q (modN q 2)) 18446744073709551616) fun q => wn (modN (addN (divN q 2) (mulN (addN (divN (addN E 1) 2) 510) 4503599627370496)) 18446744073709551616) id

theorem qsqEnd_eq (E : Nat) (p : Nat × Nat) (R : Nat) (hR : R = if p.1 = 0 then p.2 else (p.2 + p.2 % 2) % 18446744073709551616) : qsqEnd E p = (R / 2 + ((E + 1) / 2 + 510) * 4503599627370496) % 18446744073709551616 := by
  obtain ⟨I, Q⟩ := p
  unfold qsqEnd
  dsimp only at hR ⊢
  rw [wn_eq, wn_eq, beq_decide, addN_eq, modN_eq, modN_eq, modN_eq, addN_eq, divN_eq, mulN_eq, addN_eq, divN_eq, addN_eq, id_eq, Bool.cond_decide, ← hR]

def qsqrtN (n E x : Nat) : Nat :=
  wn (bif Nat.beq (modN E 2) 0 then mulN (addN (modN x 4503599627370496) 4503599627370496) 2 else addN (modN x 4503599627370496) 4503599627370496) fun ix3 =>
  qsqEnd E (qsqGo n (mulN ix3 2) 0 0)

theorem qsqrtN_eq (n E x Y : Nat) (hY : Y = if E % 2 = 0 then (x % 4503599627370496 + 4503599627370496) * 2 else x % 4503599627370496 + 4503599627370496) : qsqrtN n E x = qsqEnd E (sqGo n (Y * 2) 0 0) := by
  unfold qsqrtN
  rw [wn_eq, beq_decide, modN_eq, modN_eq, addN_eq, mulN_eq, mulN_eq, Bool.cond_decide, ← hY, sqGo_q]

def qsqrt (x : Nat) : Option Nat := bif posB x then some (qsqrtN 54 (Nat.div x 4503599627370496) x) else sqrtF x

theorem sqrt_end (R F : Nat) (h : F < 2048) : (IntKind.u64.wrap ((R : Int) / 2 + IntKind.u64.wrap (IntKind.u64.wrap (F : Int) * 4503599627370496))).toNat = (R / 2 + F * 4503599627370496) % 18446744073709551616 := by
  have h1 : IntKind.u64.wrap (F : Int) = (F : Int) := by rw [IntKind.wrap_u64]; omega
  have h2 : IntKind.u64.wrap ((F : Int) * 4503599627370496) = ((F * 4503599627370496 : Nat) : Int) := by
    rw [IntKind.wrap_u64, Int.natCast_mul, show ((4503599627370496 : Nat) : Int) = 4503599627370496 from rfl]; omega
  rw [h1, h2, show (R : Int) / 2 = ((R / 2 : Nat) : Int) from by omega, ← Int.natCast_add, wrap_u64_nat, Int.toNat_natCast]

theorem sqrt_q (x : Nat) : sqrtF x = qsqrt x := by
  unfold qsqrt
  cases hp : posB x
  · rw [cond_false]
  · obtain ⟨a, b⟩ := posB_is hp
    rw [cond_true]
    have hx := fv_pos a (by omega)
    have hpv := PV_pos (m := 4503599627370496 + x % 4503599627370496) (e := x / 4503599627370496 - 1) (by omega)
    have g1 : feq x 0 = false := by rw [feq_fv hx fv_zero]; exact decide_eq_false (by omega)
    have g2 : isNum x = true := isNum_fv hx
    have g3 : fgt x 9218868437227405311 = false := by
      rw [fgt_q]
      unfold qgt qlt
      rw [posB_fin hp, show finB 9218868437227405311 = true from by decide, Bool.and_self, cond_true, cond_true, show Nat.ble 9223372036854775808 9218868437227405311 = false from by decide, cond_false, ble_decide, decide_eq_false (by omega), cond_false, blt_decide, decide_eq_false (by omega)]
    have g4 : flt x 0 = false := by rw [flt_fv hx fv_zero]; exact decide_eq_false (by omega)
    have hE : Nat.div x 4503599627370496 = x / 4503599627370496 := rfl
    rw [hE]
    have f1 := bit_exp x (by omega)
    have f2 := bit_frac x (by omega)
    obtain ⟨E, hEE⟩ : ∃ E, E = x / 4503599627370496 := ⟨_, rfl⟩
    rw [← hEE] at f1 ⊢
    have hE1 : 0 < E := by omega
    have hE2 : E < 2048 := by omega
    have w1 : wrap64 (E : Int) = (E : Int) := by unfold wrap64; omega
    have w2 : wrap64 ((E : Int) - 1023) = (E : Int) - 1023 := by unfold wrap64; omega
    have e1 := bit_or (x % 4503599627370496) 1 (by omega) (by decide) 4503599627370496 (by decide)
    rw [show ((4503599627370496 : Nat) : Int) = 4503599627370496 from rfl, Nat.one_mul] at e1
    obtain ⟨X, hX⟩ : ∃ X, X = x % 4503599627370496 + 4503599627370496 := ⟨_, rfl⟩
    have hX2 : X < 9007199254740992 := by omega
    rw [← hX, ← f2] at e1
    have d0 : decide ((E : Int) = 0) = false := decide_eq_false (by omega)
    have ho := i64_and_low ((E : Int) - 1023) 1 1 (by decide) (by decide)
    rw [show ((1 : Nat) : Int) = 1 from rfl, show (2 : Int) ^ 1 = 2 from rfl] at ho
    have hf : wrap64 (wrap64 (((E : Int) - 1023) / 2 - 1) + 1023) = (((E + 1) / 2 + 510 : Nat) : Int) := by unfold wrap64; omega
    have hpar : (decide (((E : Int) - 1023) % 2 = 1) = true) ↔ E % 2 = 0 := by rw [decide_eq_true_iff]; omega
    obtain ⟨Y, hY⟩ : ∃ Y, Y = if E % 2 = 0 then X * 2 else X := ⟨_, rfl⟩
    have hY2 : Y < 18014398509481984 := by rw [hY]; split <;> omega
    have h3 : (if decide (((E : Int) - 1023) % 2 = 1) = true then X * 2 % 18446744073709551616 else X) = Y := by
      rw [hY]
      by_cases h : E % 2 = 0
      · rw [if_pos (hpar.2 h), if_pos h]; omega
      · rw [if_neg (fun hc => h (hpar.1 hc)), if_neg h]
    obtain ⟨p, hp2⟩ : ∃ p, p = sqGo 54 (Y * 2) 0 0 := ⟨_, rfl⟩
    obtain ⟨R, hR⟩ : ∃ R, R = if p.1 = 0 then p.2 else (p.2 + p.2 % 2) % 18446744073709551616 := ⟨_, rfl⟩
    have hN : qsqrtN 54 E x = (R / 2 + ((E + 1) / 2 + 510) * 4503599627370496) % 18446744073709551616 := by
      rw [qsqrtN_eq 54 E x Y (by rw [hY, hX]), ← hp2]
      exact qsqEnd_eq E p R hR
    rw [hN]
    unfold sqrtF
    simp only [Option.bind_eq_some_iff]
    refine ⟨(), by rw [g1]; rfl, (), by rw [g2]; rfl, (), by rw [g3]; rfl, (), by rw [g4]; rfl, (E : Int), by rw [f1, w1], (), by rw [d0]; rfl, (E : Int) - 1023, by rw [w2], X, by rw [e1, Int.toNat_natCast], (), by rw [e1, decide_eq_true rfl]; rfl, Y, by rw [ho, h3], p, by rw [Nat.mod_eq_of_lt (show Y * 2 < 18446744073709551616 by omega), hp2], R, by rw [hR], ?_⟩
    rw [hf, sqrt_end R ((E + 1) / 2 + 510) (by omega)]
end Go.Proofs.Ytgommnmmifgbgaa
end
/-
  Exp, Log and their kin, fit to be computed. (Printed by gen_q.py.)
-/
section
namespace Go.Proofs.Ytgommnmmifgbgaa
open Go.RowKit
set_option maxRecDepth 10000

theorem k0_q (y : Nat) (f : Nat → Option Nat) : ((some (IntKind.u64.wrap ((y : Int) / 3))).bind fun a0 => (some (IntKind.u64.wrap (a0 + 3071306043645493248))).bind fun a1 => (some a1.toNat).bind fun t0 => f t0) = (some (qc0 y)).bind f := by
  rw [← c0_q, Option.bind_some, Option.bind_some]
theorem k1_q (t1 : Nat) (f : Nat → Option Nat) : ((some (bits .and .u64 (t1 : Int) 18446744072635809792)).bind fun c0 => (some (IntKind.u64.wrap (c0 + 1073741824))).bind fun c1 => (some c1.toNat).bind fun t2 => f t2) = (some (qc1 t1)).bind f := by
  rw [← c1_q, Option.bind_some, Option.bind_some]

def expmultiQ (hi : Nat) (lo : Nat) (k : Int) : Option Nat :=
  (qsub hi lo).bind fun r =>
  (qmul r r).bind fun t =>
  (qmul t 4496342204012209360).bind fun m1 =>
  (qadd 13743786778040626161 m1).bind fun a1 =>
  (qmul t a1).bind fun m2 =>
  (qadd 4544508515198557740 m2).bind fun a2 =>
  (qmul t a2).bind fun m3 =>
  (qadd 13791923578850950547 m3).bind fun a3 =>
  (qmul t a3).bind fun m4 =>
  (qadd 4595172819793696085 m4).bind fun a4 =>
  (qmul t a4).bind fun m5 =>
  (qsub r m5).bind fun c =>
  (qmul r c).bind fun n1 =>
  (qsub 4611686018427387904 c).bind fun d1 =>
  (qdiv n1 d1).bind fun q =>
  (qsub lo q).bind fun s1 =>
  (qsub s1 hi).bind fun s2 =>
  (qsub 4607182418800017408 s2).bind fun y =>
  (qldexp y k).bind fun z =>
  some z
theorem expmulti_q (hi : Nat) (lo : Nat) (k : Int) : expmultiF hi lo k = expmultiQ hi lo k := by
  unfold expmultiF expmultiQ
  simp only [fadd_q, fsub_q, fmul_q, fdiv_q, ldexp_q]

def expPosQ (x : Nat) : Option Nat :=
  (need (qisNum x)).bind fun _ =>
  (need (!(qgt x 4649454530587146735))).bind fun _ =>
  (need (!(qlt x 13873137513782915153))).bind fun _ =>
  (need (qgt x 0)).bind fun _ =>
  (need (!(qlt x 0))).bind fun _ =>
  (need (qlt 13704453666088419328 x)).bind fun _ =>
  (need (!(qlt x 4481081629233643520))).bind fun _ =>
  (qmul 4609176140021203710 x).bind fun m =>
  (qadd m 4602678819172646912).bind fun a =>
  (qf2i a).bind fun k =>
  (some (qi2f k)).bind fun kf =>
  (qmul kf 4604418534311723008).bind fun h1 =>
  (qsub x h1).bind fun hi =>
  (qmul kf 4461442080421002358).bind fun lo =>
  (expmultiQ hi lo k).bind fun z =>
  some z
theorem expPos_q (x : Nat) : expPosF x = expPosQ x := by
  unfold expPosF expPosQ
  simp only [fadd_q, fsub_q, fmul_q, flt_q, fgt_q, isNum_q, i2f_q, f2i_q, expmulti_q]

def expNegQ (x : Nat) : Option Nat :=
  (need (qisNum x)).bind fun _ =>
  (need (!(qgt x 4649454530587146735))).bind fun _ =>
  (need (!(qlt x 13873137513782915153))).bind fun _ =>
  (need (qlt x 0)).bind fun _ =>
  (need (!(qlt 13704453666088419328 x))).bind fun _ =>
  (qmul 4609176140021203710 x).bind fun m =>
  (qsub m 4602678819172646912).bind fun a =>
  (qf2i a).bind fun k =>
  (some (qi2f k)).bind fun kf =>
  (qmul kf 4604418534311723008).bind fun h1 =>
  (qsub x h1).bind fun hi =>
  (qmul kf 4461442080421002358).bind fun lo =>
  (expmultiQ hi lo k).bind fun z =>
  some z
theorem expNeg_q (x : Nat) : expNegF x = expNegQ x := by
  unfold expNegF expNegQ
  simp only [fsub_q, fmul_q, flt_q, fgt_q, isNum_q, i2f_q, f2i_q, expmulti_q]

def expZeroQ (x : Nat) : Option Nat :=
  (need (qisNum x)).bind fun _ =>
  (need (!(qgt x 4649454530587146735))).bind fun _ =>
  (need (!(qlt x 13873137513782915153))).bind fun _ =>
  (need (qlt 13704453666088419328 x)).bind fun _ =>
  (need (qlt x 4481081629233643520)).bind fun _ =>
  (qadd 4607182418800017408 x).bind fun r =>
  some r
theorem expZero_q (x : Nat) : expZeroF x = expZeroQ x := by
  unfold expZeroF expZeroQ
  simp only [fadd_q, flt_q, fgt_q, isNum_q]

def expQ (x : Nat) : Option Nat := (expPosQ x).or ((expNegQ x).or ((expZeroQ x).or ((expOverF x).or (expUnderF x))))
theorem exp_q (x : Nat) : expF x = expQ x := by
  unfold expF expQ
  simp only [expPos_q, expNeg_q, expZero_q]

def logLowQ (x : Nat) : Option Nat :=
  (need (qisNum x)).bind fun _ =>
  (need (!(qgt x 9218868437227405311))).bind fun _ =>
  (need (!(qlt x 0))).bind fun _ =>
  (need (!(qeq x 0))).bind fun _ =>
  (qfrexp x).bind fun ⟨f0, k0⟩ =>
  (need (qlt f0 4604544271217802189)).bind fun _ =>
  (qmul f0 4611686018427387904).bind fun f1 =>
  (some (wrap64 (k0 - 1))).bind fun k1 =>
  (qsub f1 4607182418800017408).bind fun f =>
  (some (qi2f k1)).bind fun kf =>
  (qadd 4611686018427387904 f).bind fun d =>
  (qdiv f d).bind fun s =>
  (qmul s s).bind fun s2 =>
  (qmul s2 s2).bind fun s4 =>
  (qmul s4 4594499633228436036).bind fun a1 =>
  (qadd 4595719342595441630 a1).bind fun a2 =>
  (qmul s4 a2).bind fun a3 =>
  (qadd 4598818590951641945 a3).bind fun a4 =>
  (qmul s4 a4).bind fun a5 =>
  (qadd 4604180019048437139 a5).bind fun a6 =>
  (qmul s2 a6).bind fun t1 =>
  (qmul s4 4594685411790997151).bind fun b1 =>
  (qadd 4597174411056806063 b1).bind fun b2 =>
  (qmul s4 b2).bind fun b3 =>
  (qadd 4600877379321592324 b3).bind fun b4 =>
  (qmul s4 b4).bind fun t2 =>
  (qadd t1 t2).bind fun R =>
  (qmul 4602678819172646912 f).bind fun c1 =>
  (qmul c1 f).bind fun hf =>
  (qmul kf 4604418534311723008).bind fun g1 =>
  (qadd hf R).bind fun g2 =>
  (qmul s g2).bind fun g3 =>
  (qmul kf 4461442080421002358).bind fun g4 =>
  (qadd g3 g4).bind fun g5 =>
  (qsub hf g5).bind fun g6 =>
  (qsub g6 f).bind fun g7 =>
  (qsub g1 g7).bind fun r =>
  some r
theorem logLow_q (x : Nat) : logLowF x = logLowQ x := by
  unfold logLowF logLowQ
  simp only [fadd_q, fsub_q, fmul_q, fdiv_q, flt_q, fgt_q, feq_q, isNum_q, frexp_q, i2f_q]

def logHighQ (x : Nat) : Option Nat :=
  (need (qisNum x)).bind fun _ =>
  (need (!(qgt x 9218868437227405311))).bind fun _ =>
  (need (!(qlt x 0))).bind fun _ =>
  (need (!(qeq x 0))).bind fun _ =>
  (qfrexp x).bind fun ⟨f0, k0⟩ =>
  (need (!(qlt f0 4604544271217802189))).bind fun _ =>
  (qsub f0 4607182418800017408).bind fun f =>
  (some (qi2f k0)).bind fun kf =>
  (qadd 4611686018427387904 f).bind fun d =>
  (qdiv f d).bind fun s =>
  (qmul s s).bind fun s2 =>
  (qmul s2 s2).bind fun s4 =>
  (qmul s4 4594499633228436036).bind fun a1 =>
  (qadd 4595719342595441630 a1).bind fun a2 =>
  (qmul s4 a2).bind fun a3 =>
  (qadd 4598818590951641945 a3).bind fun a4 =>
  (qmul s4 a4).bind fun a5 =>
  (qadd 4604180019048437139 a5).bind fun a6 =>
  (qmul s2 a6).bind fun t1 =>
  (qmul s4 4594685411790997151).bind fun b1 =>
  (qadd 4597174411056806063 b1).bind fun b2 =>
  (qmul s4 b2).bind fun b3 =>
  (qadd 4600877379321592324 b3).bind fun b4 =>
  (qmul s4 b4).bind fun t2 =>
  (qadd t1 t2).bind fun R =>
  (qmul 4602678819172646912 f).bind fun c1 =>
  (qmul c1 f).bind fun hf =>
  (qmul kf 4604418534311723008).bind fun g1 =>
  (qadd hf R).bind fun g2 =>
  (qmul s g2).bind fun g3 =>
  (qmul kf 4461442080421002358).bind fun g4 =>
  (qadd g3 g4).bind fun g5 =>
  (qsub hf g5).bind fun g6 =>
  (qsub g6 f).bind fun g7 =>
  (qsub g1 g7).bind fun r =>
  some r
theorem logHigh_q (x : Nat) : logHighF x = logHighQ x := by
  unfold logHighF logHighQ
  simp only [fadd_q, fsub_q, fmul_q, fdiv_q, flt_q, fgt_q, feq_q, isNum_q, frexp_q, i2f_q]

def logQ (x : Nat) : Option Nat := (logLowQ x).or (logHighQ x)
theorem log_q (x : Nat) : logF x = logQ x := by
  unfold logF logQ
  simp only [logLow_q, logHigh_q]

def log2Q (x : Nat) : Option Nat :=
  (qfrexp x).bind fun ⟨f, k⟩ =>
  (need (!(qeq f 4602678819172646912))).bind fun _ =>
  (logQ f).bind fun l =>
  (qmul l 4609176140021203710).bind fun m =>
  (some (qi2f k)).bind fun kf =>
  (qadd m kf).bind fun r =>
  some r
theorem log2_q (x : Nat) : log2F x = log2Q x := by
  unfold log2F log2Q
  simp only [fadd_q, fmul_q, feq_q, frexp_q, i2f_q, log_q]

def floorPosQ (x : Nat) : Option Nat :=
  (need (!(qeq x 0))).bind fun _ =>
  (need (qisNum x)).bind fun _ =>
  (need (qisFin x)).bind fun _ =>
  (need (!(qlt x 0))).bind fun _ =>
  (qmodf x).bind fun ⟨d, _fr⟩ =>
  some d
theorem floorPos_q (x : Nat) : floorPosF x = floorPosQ x := by
  unfold floorPosF floorPosQ
  simp only [flt_q, feq_q, isNum_q, isFin_q, modf_q]

def floorFracQ (x : Nat) : Option Nat :=
  (need (!(qeq x 0))).bind fun _ =>
  (need (qisNum x)).bind fun _ =>
  (need (qisFin x)).bind fun _ =>
  (need (qlt x 0)).bind fun _ =>
  (qmodf (qneg x)).bind fun ⟨d, fr⟩ =>
  (need (!(qeq fr 0))).bind fun _ =>
  (qadd d 4607182418800017408).bind fun d1 =>
  some (qneg d1)
theorem floorFrac_q (x : Nat) : floorFracF x = floorFracQ x := by
  unfold floorFracF floorFracQ
  simp only [fadd_q, flt_q, feq_q, isNum_q, isFin_q, modf_q, neg_q]

def floorWholeQ (x : Nat) : Option Nat :=
  (need (!(qeq x 0))).bind fun _ =>
  (need (qisNum x)).bind fun _ =>
  (need (qisFin x)).bind fun _ =>
  (need (qlt x 0)).bind fun _ =>
  (qmodf (qneg x)).bind fun ⟨d, fr⟩ =>
  (need (qeq fr 0)).bind fun _ =>
  some (qneg d)
theorem floorWhole_q (x : Nat) : floorWholeF x = floorWholeQ x := by
  unfold floorWholeF floorWholeQ
  simp only [flt_q, feq_q, isNum_q, isFin_q, modf_q, neg_q]

def floorZeroQ (x : Nat) : Option Nat :=
  (need (qeq x 0)).bind fun _ =>
  some x
theorem floorZero_q (x : Nat) : floorZeroF x = floorZeroQ x := by
  unfold floorZeroF floorZeroQ
  simp only [feq_q]

def floorQ (x : Nat) : Option Nat := (floorPosQ x).or ((floorFracQ x).or ((floorWholeQ x).or (floorZeroQ x)))
theorem floor_q (x : Nat) : floorF x = floorQ x := by
  unfold floorF floorQ
  simp only [floorPos_q, floorFrac_q, floorWhole_q, floorZero_q]

def logLinQ (x : Nat) : Option Nat :=
  (qadd (qexpo x) (qsigni x)).bind fun a =>
  (qsub a 4607182418800017408).bind fun r =>
  some r
theorem logLin_q (x : Nat) : logLinF x = logLinQ x := by
  unfold logLinF logLinQ
  simp only [fadd_q, fsub_q, expo_q, signi_q]

def logCubQ (x : Nat) : Option Nat :=
  (qsub (qsigni x) 4607182418800017408).bind fun s =>
  (qmul 4595344385493786390 s).bind fun a1 =>
  (qadd a1 13826951575952896819).bind fun a2 =>
  (qmul a2 s).bind fun a3 =>
  (qadd a3 4609112532926033335).bind fun a4 =>
  (qmul a4 s).bind fun a5 =>
  (qadd a5 (qexpo x)).bind fun r =>
  some r
theorem logCub_q (x : Nat) : logCubF x = logCubQ x := by
  unfold logCubF logCubQ
  simp only [fadd_q, fsub_q, fmul_q, expo_q, signi_q]

def invLinQ (x : Nat) : Option Nat :=
  (floorQ x).bind fun e =>
  (qsub x e).bind fun d =>
  (qadd d 4607182418800017408).bind fun s =>
  (qf2i e).bind fun k =>
  some (qbuilt k s)
theorem invLin_q (x : Nat) : invLinF x = invLinQ x := by
  unfold invLinF invLinQ
  simp only [fadd_q, fsub_q, f2i_q, built_q, floor_q]

def cbrtNegQ (x : Nat) : Option Nat :=
  (need (!(qeq x 0))).bind fun _ =>
  (need (qisNum x)).bind fun _ =>
  (need (qisFin x)).bind fun _ =>
  (need (qlt x 0)).bind fun _ =>
  (some (qneg x)).bind fun y =>
  (need (!(qlt y 4503599627370496))).bind fun _ =>
  (some (qc0 y)).bind fun t0 =>
  (qmul t0 t0).bind fun tt =>
  (qdiv tt y).bind fun r =>
  (qmul r t0).bind fun rt =>
  (qadd 4603064841997850097 rt).bind fun s =>
  (qadd s 4609048195788499471).bind fun s1 =>
  (qdiv 13827900089180538932 s).bind fun ds =>
  (qadd s1 ds).bind fun s2 =>
  (qdiv 4609916747145206638 s2).bind fun fs =>
  (qadd 4600105333671292343 fs).bind fun g =>
  (qmul t0 g).bind fun t1 =>
  (some (qc1 t1)).bind fun t2 =>
  (qmul t2 t2).bind fun s3 =>
  (qdiv y s3).bind fun r2 =>
  (qadd t2 t2).bind fun w0 =>
  (qsub r2 t2).bind fun n =>
  (qadd w0 r2).bind fun m =>
  (qdiv n m).bind fun qq =>
  (qmul t2 qq).bind fun tq =>
  (qadd t2 tq).bind fun t3 =>
  some (qneg t3)
theorem cbrtNeg_q (x : Nat) : cbrtNegF x = cbrtNegQ x := by
  unfold cbrtNegF cbrtNegQ
  simp only [fadd_q, fsub_q, fmul_q, fdiv_q, flt_q, feq_q, isNum_q, isFin_q, neg_q, k0_q, k1_q]

def invCubQ (x : Nat) : Option Nat :=
  (floorQ x).bind fun e0 =>
  (qsub x e0).bind fun f1 =>
  (qmul 4605322156423323962 f1).bind fun f2 =>
  (qsub 4606195670930640885 f2).bind fun d1 =>
  (qmul d1 d1).bind fun g1 =>
  (qmul 4616189618054758400 13823793541601948855).bind fun g2 =>
  (qmul g2 13823793541601948855).bind fun g3 =>
  (qmul g3 13823793541601948855).bind fun g4 =>
  (qsub g1 g4).bind fun g5 =>
  (qsqrt g5).bind fun s1 =>
  (qsub d1 s1).bind fun g6 =>
  (qdiv g6 4611686018427387904).bind fun g7 =>
  (cbrtNegQ g7).bind fun c =>
  (qadd 13826951575952896819 c).bind fun h1 =>
  (qdiv 13823793541601948855 c).bind fun h2 =>
  (qadd h1 h2).bind fun h3 =>
  (some (qneg h3)).bind fun h4 =>
  (qdiv h4 4602807493447714640).bind fun h5 =>
  (qadd h5 4607182418800017408).bind fun s =>
  (qf2i e0).bind fun k =>
  some (qbuilt k s)
theorem invCub_q (x : Nat) : invCubF x = invCubQ x := by
  unfold invCubF invCubQ
  simp only [fadd_q, fsub_q, fmul_q, fdiv_q, sqrt_q, neg_q, f2i_q, built_q, floor_q, cbrtNeg_q]
end Go.Proofs.Ytgommnmmifgbgaa
end
