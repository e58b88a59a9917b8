/-
  spec.Known, spec.Total, spec.Key: what they hand back.
-/
import Derived.Test.YtnmbjalojgccmaaGreatQA
import Derived.Test.YtnmbjalojgccmaaGreatQB
import Derived.Deep.QuietTactic
import Derived.BigQuiet
section
namespace Go.Proofs.YtnmbjalojgccmaaGreat
open Go.RowKit

/-- Bins with whole counts, the counts as floats. -/
def fb (xs : List (Int × Nat)) : List (Int × Nat) := xs.map fun p => (p.1, nf p.2)
theorem fb_length (xs : List (Int × Nat)) : (fb xs).length = xs.length := by simp [fb]
theorem fb_append (xs ys : List (Int × Nat)) : fb (xs ++ ys) = fb xs ++ fb ys := by simp [fb]
theorem fb_take (xs : List (Int × Nat)) (n : Nat) : fb (xs.take n) = (fb xs).take n := by simp [fb, List.map_take]
theorem fb_drop (xs : List (Int × Nat)) (n : Nat) : fb (xs.drop n) = (fb xs).drop n := by simp [fb, List.map_drop]
theorem fb_get (xs : List (Int × Nat)) (k : Nat) (h : k < (fb xs).length) : (fb xs)[k] = (xs[k]'(by simpa [fb] using h) |>.1, nf (xs[k]'(by simpa [fb] using h)).2) := by simp [fb]

/-- The count of all bins. -/
def tot : List (Int × Nat) → Nat
  | [] => 0
  | p :: t => p.2 + tot t
theorem tot_append (xs ys : List (Int × Nat)) : tot (xs ++ ys) = tot xs + tot ys := by
  induction xs with
  | nil => simp [tot]
  | cons p t ih => simp [tot, ih]; omega
theorem tot_take (xs : List (Int × Nat)) (k : Nat) : tot (xs.take k) ≤ tot xs := by
  have := tot_append (xs.take k) (xs.drop k)
  rw [List.take_append_drop] at this
  omega
theorem tot_succ (xs : List (Int × Nat)) (k : Nat) (h : k < xs.length) : tot (xs.take (k + 1)) = tot (xs.take k) + xs[k].2 := by
  rw [List.take_succ_eq_append_getElem h, tot_append]; simp [tot]

/-- A kind that is one of stores, with as many bins as it may have. -/
def knownB (kind most : Int) : Bool := (decide (0 ≤ kind) && decide (kind ≤ 2)) || (((kind == 3) || (kind == 4)) && decide (1 ≤ most) && decide (most ≤ 500))

set_option maxRecDepth 100000 in
theorem known_any (kind most : Int) (w : World) : Calls Tryz.prog 11 #[.int .i64 kind, .int .i64 most] w fun e w' => e = .returned (.bool (knownB kind most)) ∧ w = w' := by
  by_cases h0 : 0 ≤ kind
  · by_cases h2 : kind ≤ 2
    · have hk : knownB kind most = true := by simp [knownB, h0, h2]
      rw [hk]; clear hk
      go_enter Tryz.func11, Tryz.ntmps11
      go_wp2
      go_ret
      exact ⟨rfl, rfl⟩
    · by_cases h3 : kind = 3
      · subst h3
        go_enter Tryz.func11, Tryz.ntmps11
        go_wp2
        all_goals
          go_ret
          exact ⟨by simp_all [knownB] <;> omega, rfl⟩
      · by_cases h4 : kind = 4
        · subst h4
          go_enter Tryz.func11, Tryz.ntmps11
          go_wp2
          all_goals
            go_ret
            exact ⟨by simp_all [knownB] <;> omega, rfl⟩
        · have hk : knownB kind most = false := by simp [knownB, h2, h3, h4]
          have h3' : (kind == 3) = false := by simpa using h3
          have h4' : (kind == 4) = false := by simpa using h4
          rw [hk]; clear hk
          go_enter Tryz.func11, Tryz.ntmps11
          go_wp2
          go_ret
          exact ⟨rfl, rfl⟩
  · have hk : knownB kind most = false := by simp [knownB]; omega
    have h3' : (kind == 3) = false := by simp; omega
    have h4' : (kind == 4) = false := by simp; omega
    rw [hk]; clear hk
    go_enter Tryz.func11, Tryz.ntmps11
    go_wp2
    go_ret
    exact ⟨rfl, rfl⟩

def TotalRel (xs : List (Int × Nat)) (w wr : World) (v i : Value) : Prop :=
  ∃ k, k ≤ xs.length ∧ i = .int .i64 (k : Int) ∧ v = .float .f64 (nf (tot (xs.take k))) ∧ Below w.heap.size w wr

set_option maxRecDepth 100000 in
set_option maxHeartbeats 400000 in
theorem total_any (ao : Option Addr) (cp : Nat) (xs : List (Int × Nat)) (w : World) (hl : Lie2 w ao (fb xs)) (hn : xs.length ≤ 2147483647) (ht : tot xs < 9007199254740992) :
    Calls Tryz.prog 15 #[.slice ao xs.length cp] w fun e w' => e = .returned (.float .f64 (nf (tot xs))) ∧ Below w.heap.size w w' := by
  have HL := Lib.hid hl; clear hl
  have HT := Lib.hid ht; clear ht
  go_enter Tryz.func15, Tryz.ntmps15
  go_wp2
  go_loopw [3, 8] (fun v i wr => TotalRel xs w wr v i) (fun _ i _ => xs.length - (intOf i).toNat)
  case atStart => exact ⟨0, by omega, rfl, by rw [List.take_zero, tot, nf_zero], Below.refl _ _⟩
  case round =>
    obtain ⟨k, hk, rfl, rfl, hb⟩ := hrel
    by_cases hlt : k < xs.length
    · rcases HL.out.later hb with h0 | ⟨g, off, rfl, hcell⟩
      · have := congrArg List.length h0; rw [fb_length, List.length_nil] at this; omega
      obtain ⟨c0, c1⟩ := hcell k (by rw [fb_length]; exact hlt)
      rw [fb_get] at c0 c1
      dsimp only at c0 c1
      have hadd := fun w : World => run_float_arith (P := Tryz.prog) w .add 30 .f64 _ _ _ (nf_add (tot (xs.take k)) xs[k].2 (by have := tot_succ xs k hlt; have := tot_take xs (k + 1); have := HT.out; omega))
      rw [← tot_succ xs k hlt] at hadd
      obtain ⟨b, hbb⟩ : ∃ b, b = nf xs[k].2 := ⟨_, rfl⟩
      obtain ⟨x, hx⟩ : ∃ x, x = xs[k].1 := ⟨_, rfl⟩
      rw [← hbb] at c1 hadd
      rw [← hx] at c0
      have HB := Lib.hid hb
      have hz := hb.size
      clear hbb hx hb hcell
      go_wp2
      go_roundw
      case rel => exact ⟨k + 1, by omega, by go_num, rfl, HB.out.alloc hz _⟩
      case measure => simp [intOf]; omega
    · obtain rfl : k = xs.length := by omega
      have HB := Lib.hid hb
      clear hb hlt
      go_wp2
      go_ret
      exact ⟨by rw [List.take_length]; rfl, HB.out⟩

def fgt2 (x y : Nat) : Bool := FloatKind.f64.format.order x y == some .gt

/-- The index of a rank: the first one up to which there is more than it, or else the last one. -/
def keyF (r : Nat) : Nat → List (Int × Nat) → Int
  | _, [] => 0
  | acc, p :: t => if fgt2 (nf (acc + p.2)) r || t.isEmpty then p.1 else keyF r (acc + p.2) t

def KeyRel (r : Nat) (xs : List (Int × Nat)) (w wr : World) (v i : Value) : Prop :=
  ∃ k, k ≤ xs.length ∧ i = .int .i64 (k : Int) ∧ v = .float .f64 (nf (tot (xs.take k))) ∧ Below w.heap.size w wr ∧
    Hid ((k < xs.length → keyF r 0 xs = keyF r (tot (xs.take k)) (xs.drop k)) ∧ (k = xs.length → ∀ h : xs.length - 1 < xs.length, keyF r 0 xs = xs[xs.length - 1].1))

set_option maxRecDepth 100000 in
set_option maxHeartbeats 400000 in
theorem key_any (ao : Option Addr) (cp r : Nat) (xs : List (Int × Nat)) (w : World) (hl : Lie2 w ao (fb xs)) (h0 : 0 < xs.length) (hn : xs.length ≤ 2147483647) (ht : tot xs < 9007199254740992) :
    Calls Tryz.prog 17 #[.slice ao xs.length cp, .float .f64 r] w fun e w' => e = .returned (.int .i64 (keyF r 0 xs)) ∧ Below w.heap.size w w' := by
  have HL := Lib.hid hl; clear hl
  have HT := Lib.hid ht; clear ht
  go_enter Tryz.func17, Tryz.ntmps17
  go_wp2
  go_loopw [5, 10] (fun v i wr => KeyRel r xs w wr v i) (fun _ i _ => xs.length - (intOf i).toNat)
  case atStart => exact ⟨0, by omega, rfl, by rw [List.take_zero, tot, nf_zero], Below.refl _ _, fun _ => rfl, fun h => by omega⟩
  case round =>
    obtain ⟨k, hk, rfl, rfl, hb, HK⟩ := hrel
    rcases HL.out.later hb with h0' | ⟨g, off, rfl, hcell⟩
    · have := congrArg List.length h0'; rw [fb_length, List.length_nil] at this; omega
    by_cases hlt : k < xs.length
    · obtain ⟨c0, c1⟩ := hcell k (by rw [fb_length]; exact hlt)
      rw [fb_get] at c0 c1
      dsimp only at c0 c1
      have hadd := fun w : World => run_float_arith (P := Tryz.prog) w .add 30 .f64 _ _ _ (nf_add (tot (xs.take k)) xs[k].2 (by have := tot_succ xs k hlt; have := tot_take xs (k + 1); have := HT.out; omega))
      have hd : keyF r (tot (xs.take k)) (xs.drop k) = if fgt2 (nf (tot (xs.take (k + 1)))) r || (xs.drop (k + 1)).isEmpty then xs[k].1 else keyF r (tot (xs.take (k + 1))) (xs.drop (k + 1)) := by
        rw [List.drop_eq_getElem_cons hlt, keyF, tot_succ xs k hlt]
      have HD := Lib.hid hd
      clear hd
      rw [← tot_succ xs k hlt] at hadd
      obtain ⟨b, hbb⟩ : ∃ b, b = nf xs[k].2 := ⟨_, rfl⟩
      obtain ⟨x, hx⟩ : ∃ x, x = xs[k].1 := ⟨_, rfl⟩
      rw [← hbb] at c1 hadd
      rw [← hx] at c0
      have HX := Lib.hid hx
      have HB := Lib.hid hb
      have hz := hb.size
      clear hbb hx hb hcell
      obtain ⟨y, hy⟩ : ∃ y, y = nf (tot (xs.take (k + 1))) := ⟨_, rfl⟩
      rw [← hy] at hadd
      have HY := Lib.hid hy
      clear hy
      cases hf : (FloatKind.f64.format.order y r == some .gt)
      · have hrel' : Hid ((k + 1 < xs.length → keyF r 0 xs = keyF r (tot (xs.take (k + 1))) (xs.drop (k + 1))) ∧ (k + 1 = xs.length → ∀ h : xs.length - 1 < xs.length, keyF r 0 xs = xs[xs.length - 1].1)) := by
          have hf' : fgt2 y r = false := hf
          have h1 := HK.out.1 hlt
          rw [HD.out, ← HY.out, hf', Bool.false_or] at h1
          refine ⟨fun h => ?_, fun h hl => ?_⟩
          · rw [h1, if_neg (by simp; omega)]
          · rw [h1, if_pos (by simp; omega)]
            have : k = xs.length - 1 := by omega
            subst this
            rfl
        clear HK HD HX
        go_wp2
        go_roundw
        case rel => exact ⟨k + 1, by omega, by go_num, by rw [HY.out], HB.out.alloc hz _, hrel'.out⟩
        case measure => simp [intOf]; omega
      · have hres : keyF r 0 xs = x := by
          have hf' : fgt2 y r = true := hf
          have h1 := HK.out.1 hlt
          rw [HD.out, ← HY.out, hf', Bool.true_or, if_pos rfl] at h1
          rw [h1, HX.out]
        have HR := Lib.hid hres
        clear HK HD HX HY hres
        go_wp2
        go_ret
        exact ⟨by rw [HR.out]; rfl, HB.out.alloc hz _⟩
    · obtain rfl : k = xs.length := by omega
      obtain ⟨m, hm⟩ : ∃ m, xs.length = m + 1 := ⟨xs.length - 1, by omega⟩
      obtain ⟨c0, c1⟩ := hcell m (by rw [fb_length]; omega)
      rw [fb_get] at c0 c1
      dsimp only at c0 c1
      have hres : keyF r 0 xs = xs[m].1 := by
        have := HK.out.2 rfl (by omega)
        rw [this]
        have : xs.length - 1 = m := by omega
        simp only [this]
      have HB := Lib.hid hb
      obtain ⟨x, hx⟩ : ∃ x, x = xs[m].1 := ⟨_, rfl⟩
      rw [← hx] at c0 hres
      have HR := Lib.hid hres
      have hmb : m < 2147483647 := by omega
      clear hx hb hcell HK c1 hlt HL hres
      rw [hm]
      have e1 : (((m + 1 : Nat) : Int) - 1) = (m : Int) := by omega
      have HM := Lib.hid hm
      clear hm
      go_wp2
      go_ret
      exact ⟨by rw [HR.out]; rfl, HB.out⟩
end Go.Proofs.YtnmbjalojgccmaaGreat
end
/-
  spec.Proper: whether bins are ones that are compared; what such bins are.
-/
section
namespace Go.Proofs.YtnmbjalojgccmaaGreat
open Go.RowKit Ieee
set_option exponentiation.threshold 3000

/-- A whole count from one to a thousand. -/
def okC (c : Nat) : Bool :=
  !(FloatKind.f64.format.order c 4607182418800017408 == some .lt) && !(FloatKind.f64.format.order c 4652007308841189376 == some .gt) &&
  (((floatToIntVal .f64 c .i64).map fun n => FloatKind.f64.format.order c (floatOfInt .f64 n) == some .eq) == some true)

def okBin (p : Int × Nat) : Bool := decide (-10000 ≤ p.1) && decide (p.1 ≤ 10000) && okC p.2

def properB (ps : List (Int × Nat)) : Bool := ps.all okBin && decide (ps.length ≤ 60)

theorem cut_whole (m : Nat) (i : Int) (g1 : -1074 ≤ i) (lo : 2 ^ 1074 ≤ m * 2 ^ (i + 1074).toNat) (hi : m * 2 ^ (i + 1074).toNat ≤ 1000 * 2 ^ 1074) :
    ∃ k : Nat, 1 ≤ k ∧ k ≤ 1000 ∧ Toward.zero.cut false (m <<< i.toNat) (-i).toNat = k := by
  have hM : 2 ^ (-i).toNat ≤ m <<< i.toNat ∧ m <<< i.toNat ≤ 1000 * 2 ^ (-i).toNat := by
    rw [Nat.shiftLeft_eq]
    have e : 1074 + i.toNat = (i + 1074).toNat + (-i).toNat := by omega
    have e2 : m * 2 ^ i.toNat * 2 ^ 1074 = m * 2 ^ (i + 1074).toNat * 2 ^ (-i).toNat := by
      rw [Nat.mul_assoc, ← Nat.pow_add, Nat.add_comm, e, Nat.pow_add, Nat.mul_assoc]
    refine ⟨?_, ?_⟩
    · refine Nat.le_of_mul_le_mul_right ?_ (Nat.two_pow_pos 1074)
      rw [e2, Nat.mul_comm (2 ^ (-i).toNat)]
      exact Nat.mul_le_mul_right _ lo
    · refine Nat.le_of_mul_le_mul_right ?_ (Nat.two_pow_pos 1074)
      rw [e2, show 1000 * 2 ^ (-i).toNat * 2 ^ 1074 = 1000 * 2 ^ 1074 * 2 ^ (-i).toNat from by ac_rfl]
      exact Nat.mul_le_mul_right _ hi
  revert hM
  generalize m <<< i.toNat = M
  generalize (-i).toNat = d
  rintro ⟨h1, h2⟩
  have hd0 := Nat.two_pow_pos d
  have hM0 : M ≠ 0 := by omega
  have hl : d ≤ M.log2 + 2 := by have := (Nat.le_log2 hM0).2 h1; omega
  refine ⟨M / 2 ^ d, (Nat.le_div_iff_mul_le hd0).2 (by omega), ?_, ?_⟩
  · have := Nat.div_le_div_right (c := 2 ^ d) h2
    rwa [Nat.mul_div_cancel _ hd0] at this
  · unfold Toward.cut
    simp only [Bool.toNat_false, Nat.add_zero, Nat.one_shiftLeft, Nat.min_eq_left hl]

theorem okC_whole (c : Nat) (hc : c < 18446744073709551616) (h : okC c = true) : ∃ n, 1 ≤ n ∧ n ≤ 1000 ∧ c = nf n := by
  unfold okC at h
  simp only [Bool.and_eq_true, Bool.not_eq_true', beq_iff_eq, Option.map_eq_some_iff] at h
  obtain ⟨⟨h1, h2⟩, n, hn, he⟩ := h
  have h1' : ¬ FloatKind.f64.format.order c (nf 1) = some .lt := by rw [nf_one]; simpa using h1
  have h2' : ¬ FloatKind.f64.format.order c (nf 1000) = some .gt := by rw [nf_thousand]; simpa using h2
  obtain ⟨m1, i1, r1, p1, v1⟩ := nf_read 1 (by decide)
  obtain ⟨m2, i2, r2, p2, v2⟩ := nf_read 1000 (by decide)
  unfold floatToIntVal at hn
  have hrd : FloatKind.f64.decode c = double.read c := rfl
  rw [hrd] at hn
  have q1 : ¬ (double.read c).order (double.read (nf 1)) = some .lt := h1'
  have q2 : ¬ (double.read c).order (double.read (nf 1000)) = some .gt := h2'
  rw [r1] at q1
  rw [r2] at q2
  cases hr : double.read c with
  | nan s t => rw [hr] at hn; simp [Datum.toInt, Datum.integral] at hn
  | infinity s => rw [hr] at hn; simp [Datum.toInt, Datum.integral] at hn
  | number s m i =>
    obtain ⟨g1, g2, g3⟩ := read_number hr
    rw [hr] at hn q1 q2
    rw [order_sv _ _ _ _ _ _ g1 p1, v1] at q1
    rw [order_sv _ _ _ _ _ _ g1 p2, v2] at q2
    have hlo : (2 : Int) ^ 1074 ≤ sv s m i := by
      rcases Int.lt_trichotomy (sv s m i) (((1 : Nat) : Int) * 2 ^ 1074) with h | h | h
      · exact absurd (by rw [Int.compare_eq_lt.2 h]) q1
      · rw [h]; omega
      · omega
    have hhi : sv s m i ≤ 1000 * 2 ^ 1074 := by
      rcases Int.lt_trichotomy (sv s m i) (((1000 : Nat) : Int) * 2 ^ 1074) with h | h | h
      · omega
      · rw [h]; omega
      · exact absurd (by rw [Int.compare_eq_gt.2 h]) q2
    have hp := pow1074_pos
    have hs : s = false := by
      cases s with
      | false => rfl
      | true =>
        exfalso
        unfold sv at hlo
        rw [signed_eq] at hlo
        have : (0 : Int) ≤ (m : Int) * 2 ^ (i + 1074).toNat := Int.mul_nonneg (by omega) (Int.le_of_lt (two_pow_pos_int _))
        simp at hlo
        omega
    subst hs
    rw [sv_false] at hlo hhi
    have lo : 2 ^ 1074 ≤ m * 2 ^ (i + 1074).toNat := by
      have e : ((2 ^ 1074 : Nat) : Int) = (2 : Int) ^ 1074 := by rw [Int.natCast_pow]; rfl
      rw [← e] at hlo
      exact Int.ofNat_le.1 hlo
    have hi : m * 2 ^ (i + 1074).toNat ≤ 1000 * 2 ^ 1074 := by
      have e : ((1000 * 2 ^ 1074 : Nat) : Int) = (1000 : Int) * 2 ^ 1074 := by rw [Int.natCast_mul, Int.natCast_pow]; rfl
      rw [← e] at hhi
      exact Int.ofNat_le.1 hhi
    have hcut := cut_whole m i g1 lo hi
    obtain ⟨k, k1, k2, hk⟩ := hcut
    simp only [Datum.toInt, Datum.integral, hk] at hn
    have hsk : signed false k 0 = (k : Int) := by rw [signed_eq]; simp
    rw [hsk] at hn
    split at hn
    · obtain rfl := Option.some.inj hn
      exact ⟨k, k1, k2, eq_nf hc (by omega) (by omega) he⟩
    · cases hn

section
variable {P : Program}
/-- int(x) of a float that has no whole part within the kind: something is drawn. -/
theorem run_convert_float_none (w : World) (src dst : TypeId) (s : FloatKind) (k : IntKind) (b : Nat) (hs : (P.underlying src).isSome = true) (hd : P.underlying dst = some (.int k)) (h : floatToIntVal s b k = none) :
    ∃ n, (convert src dst (.float s b)).run P w = .ok (.int k n) w.drew := by
  obtain ⟨u, hs'⟩ := Option.isSome_iff_exists.1 hs
  unfold floatToIntVal at h
  split at h
  · rename_i m he
    split at h
    · cases h
    · rename_i hb
      cases u <;> simp [convert, run_underlying hs', run_underlying hd, Conv.floatToInt, he, hb, Question.forced]
  · rename_i he
    cases u <;> simp [convert, run_underlying hs', run_underlying hd, Conv.floatToInt, he, Question.forced]
end

/-- Where nothing is between one and a thousand and yet has no whole part, it is not equal to anything. -/
theorem order_nan {c : Nat} (h1 : (FloatKind.f64.format.order c 4607182418800017408 == some .lt) = false) (h2 : (FloatKind.f64.format.order c 4652007308841189376 == some .gt) = false) (h : floatToIntVal .f64 c .i64 = none) (x : Nat) :
    (FloatKind.f64.format.order c x != some .eq) = true := by
  have h1' : ¬ FloatKind.f64.format.order c (nf 1) = some .lt := by rw [nf_one]; simpa using h1
  have h2' : ¬ FloatKind.f64.format.order c (nf 1000) = some .gt := by rw [nf_thousand]; simpa using h2
  obtain ⟨m1, i1, r1, p1, v1⟩ := nf_read 1 (by decide)
  obtain ⟨m2, i2, r2, p2, v2⟩ := nf_read 1000 (by decide)
  have q1 : ¬ (double.read c).order (double.read (nf 1)) = some .lt := h1'
  have q2 : ¬ (double.read c).order (double.read (nf 1000)) = some .gt := h2'
  rw [r1] at q1
  rw [r2] at q2
  cases hr : double.read c with
  | nan s t =>
    have : FloatKind.f64.format.order c x = none := by
      show (double.read c).order (double.read x) = none
      rw [hr]; rfl
    rw [this]; rfl
  | infinity s =>
    rw [hr] at q1 q2
    cases s <;> simp [Datum.order] at q1 q2
  | number s m i =>
    exfalso
    obtain ⟨g1, g2, g3⟩ := read_number hr
    rw [hr] at q1 q2
    rw [order_sv _ _ _ _ _ _ g1 p1, v1] at q1
    rw [order_sv _ _ _ _ _ _ g1 p2, v2] at q2
    have hlo : (2 : Int) ^ 1074 ≤ sv s m i := by
      rcases Int.lt_trichotomy (sv s m i) (((1 : Nat) : Int) * 2 ^ 1074) with h | h | h
      · exact absurd (by rw [Int.compare_eq_lt.2 h]) q1
      · rw [h]; omega
      · omega
    have hhi : sv s m i ≤ 1000 * 2 ^ 1074 := by
      rcases Int.lt_trichotomy (sv s m i) (((1000 : Nat) : Int) * 2 ^ 1074) with h | h | h
      · omega
      · rw [h]; omega
      · exact absurd (by rw [Int.compare_eq_gt.2 h]) q2
    have hp := pow1074_pos
    have hs : s = false := by
      cases s with
      | false => rfl
      | true =>
        exfalso
        unfold sv at hlo
        rw [signed_eq] at hlo
        have : (0 : Int) ≤ (m : Int) * 2 ^ (i + 1074).toNat := Int.mul_nonneg (by omega) (Int.le_of_lt (two_pow_pos_int _))
        simp at hlo
        omega
    subst hs
    rw [sv_false] at hlo hhi
    have lo : 2 ^ 1074 ≤ m * 2 ^ (i + 1074).toNat := by
      have e : ((2 ^ 1074 : Nat) : Int) = (2 : Int) ^ 1074 := by rw [Int.natCast_pow]; rfl
      rw [← e] at hlo
      exact Int.ofNat_le.1 hlo
    have hi : m * 2 ^ (i + 1074).toNat ≤ 1000 * 2 ^ 1074 := by
      have e : ((1000 * 2 ^ 1074 : Nat) : Int) = (1000 : Int) * 2 ^ 1074 := by rw [Int.natCast_mul, Int.natCast_pow]; rfl
      rw [← e] at hhi
      exact Int.ofNat_le.1 hhi
    obtain ⟨k, k1, k2, hk⟩ := cut_whole m i g1 lo hi
    unfold floatToIntVal at h
    have hrd : FloatKind.f64.decode c = double.read c := rfl
    rw [hrd, hr] at h
    simp only [Datum.toInt, Datum.integral, hk] at h
    have hsk : signed false k 0 = (k : Int) := by rw [signed_eq]; simp
    rw [hsk] at h
    have hb : IntKind.i64.min ≤ (k : Int) ∧ (k : Int) ≤ IntKind.i64.max := by
      have e1 : IntKind.i64.min = -9223372036854775808 := by decide
      have e2 : IntKind.i64.max = 9223372036854775807 := by decide
      rw [e1, e2]; omega
    rw [if_pos hb] at h
    cases h
end Go.Proofs.YtnmbjalojgccmaaGreat
end
/-
  spec.Proper walked.
-/
section
namespace Go.Proofs.YtnmbjalojgccmaaGreat
open Go.RowKit

def ProperRel (ps : List (Int × Nat)) (w wr : World) (i : Value) : Prop :=
  ∃ k, k ≤ ps.length ∧ i = .int .i64 (k : Int) ∧ Below w.heap.size w wr ∧ Hid ((ps.take k).all okBin = true)

theorem proper_bad {ps : List (Int × Nat)} {k : Nat} (h : k < ps.length) (hb : okBin ps[k] = false) : properB ps = false := by
  unfold properB
  have : ps.all okBin = false := by
    rw [← Bool.not_eq_true, List.all_eq_true]
    intro h2
    have := h2 ps[k] (List.getElem_mem h)
    rw [hb] at this
    cases this
  rw [this]; rfl

set_option maxRecDepth 100000 in
set_option maxHeartbeats 800000 in
theorem proper_any (ao : Option Addr) (cp : Nat) (ps : List (Int × Nat)) (w : World) (hl : Lie2 w ao ps) (hn : ps.length ≤ 2147483647) :
    Calls Tryz.prog 12 #[.slice ao ps.length cp] w fun e w' => e = .returned (.bool (properB ps)) ∧ Below w.heap.size w w' := by
  have HL := Lib.hid hl; clear hl
  go_enter Tryz.func12, Tryz.ntmps12
  go_wp2
  go_loopw [7] (fun i wr => ProperRel ps w wr i) (fun i _ => ps.length - (intOf i).toNat)
  case atStart => exact ⟨0, by omega, rfl, Below.refl _ _, rfl⟩
  case round =>
    obtain ⟨k, hk, rfl, hb, HK⟩ := hrel
    by_cases hlt : k < ps.length
    · rcases HL.out.later hb with h0 | ⟨g, off, rfl, hcell⟩
      · have := congrArg List.length h0; rw [List.length_nil] at this; omega
      obtain ⟨c0, c1⟩ := hcell k hlt
      have hbad := proper_bad hlt
      have hgood : okBin ps[k] = true → (ps.take (k + 1)).all okBin = true := by
        intro h
        rw [List.take_succ_eq_append_getElem hlt, List.all_append, HK.out]
        simp [h]
      generalize ps[k] = p at c0 c1 hbad hgood
      obtain ⟨x, c⟩ := p
      dsimp only at c0 c1
      have HG := Lib.hid hgood
      have HD := Lib.hid hbad
      have HB := Lib.hid hb
      have hz := hb.size
      clear hgood hbad hcell hb HK
      by_cases h1 : x < -10000
      · have hr := HD.out (by simp [okBin]; omega)
        have HR := Lib.hid hr; clear hr HG HD
        go_wp2
        go_ret
        exact ⟨by rw [HR.out]; rfl, HB.out.alloc hz _⟩
      by_cases h2 : 10000 < x
      · have hr := HD.out (by simp [okBin]; omega)
        have HR := Lib.hid hr; clear hr HG HD
        go_wp2
        go_ret
        exact ⟨by rw [HR.out]; rfl, HB.out.alloc hz _⟩
      cases h3 : (FloatKind.f64.format.order c 4607182418800017408 == some .lt)
      · cases h4 : (FloatKind.f64.format.order c 4652007308841189376 == some .gt)
        · cases hf : floatToIntVal .f64 c .i64 with
          | none =>
            obtain ⟨n, hcn⟩ := run_convert_float_none (P := Tryz.prog) (wr.alloc (.cells #[.int .i64 x, .float .f64 c] 44)) 30 3 .f64 .i64 c (by simp [Tryz.underlying30]) Tryz.underlying3 hf
            have hq := order_nan h3 h4 hf (floatOfInt .f64 n)
            have hr := HD.out (by simp [okBin, okC, hf])
            have HR := Lib.hid hr; clear hr HG HD hf
            go_wp2
            go_ret
            exact ⟨by rw [HR.out]; rfl, (HB.out.alloc hz _).drew⟩
          | some n =>
            have hcn := fun w => run_convert_float_int (P := Tryz.prog) w 30 3 .f64 .i64 c n (by simp [Tryz.underlying30]) Tryz.underlying3 hf
            cases hq : (FloatKind.f64.format.order c (floatOfInt .f64 n) == some .eq)
            · have hq2 : (FloatKind.f64.format.order c (floatOfInt .f64 n) != some .eq) = true := by simp [bne, hq]
              have hr := HD.out (by simp [okBin, okC, hf, hq])
              have HR := Lib.hid hr; clear hr HG HD hf hq
              go_wp2
              go_ret
              exact ⟨by rw [HR.out]; rfl, HB.out.alloc hz _⟩
            · have hq2 : (FloatKind.f64.format.order c (floatOfInt .f64 n) != some .eq) = false := by simp [bne, hq]
              have hr := HG.out (by
                have e1 : okC c = true := by
                  unfold okC
                  rw [h3, h4, hf, Option.map_some, hq]
                  rfl
                simp [okBin, e1]; omega)
              have HR := Lib.hid hr
              clear hr HG HD hf hq
              go_wp2
              go_roundw
              case rel => exact ⟨k + 1, by omega, by go_num, HB.out.alloc hz _, HR.out⟩
              case measure => simp [intOf]; omega
        · have hr := HD.out (by simp [okBin, okC, h4])
          have HR := Lib.hid hr; clear hr HG HD
          go_wp2
          go_ret
          exact ⟨by rw [HR.out]; rfl, HB.out.alloc hz _⟩
      · have hr := HD.out (by simp [okBin, okC, h3])
        have HR := Lib.hid hr; clear hr HG HD
        go_wp2
        go_ret
        exact ⟨by rw [HR.out]; rfl, HB.out.alloc hz _⟩
    · obtain rfl : k = ps.length := by omega
      have HB := Lib.hid hb
      have hall := HK.out
      rw [List.take_length] at hall
      have hr : properB ps = decide ((ps.length : Int) ≤ 60) := by unfold properB; rw [hall, Bool.true_and]; congr 1; simp; omega
      have HR := Lib.hid hr
      clear hb hlt HK hall hr
      go_wp2
      go_ret
      exact ⟨by rw [HR.out]; rfl, HB.out⟩
end Go.Proofs.YtnmbjalojgccmaaGreat
end
