/-
  DecodeVarfloat64: what it reads off a slice of bytes.
-/
import Derived.Test.YtgjlbodclfhlfaaDoorDecU
import Derived.Test.YtgjlbodclfhlfaaDoorRot
namespace Go.Proofs.YtgjlbodclfhlfaaDoor
open Go.RowKit

/-- A turned number read off bytes: i bytes have been read, they made acc. -/
def decV : Nat → Nat → List Nat → Option (Nat × List Nat)
  | _, _, [] => none
  | i, acc, n :: t => if i = 8 then some (acc + n, t) else if n < 128 then some (acc + n * 2 ^ (57 - 7 * i), t) else decV (i + 1) (acc + n % 128 * 2 ^ (57 - 7 * i)) t

/-- The float's bits, one more, of a turned number. -/
def unturned (x : Nat) : Nat := (rotr6 x + 4607182418800017408) % 18446744073709551616

theorem orHigh (k x n : Nat) (hk : k < 8) (hx : x < 18446744073709551616) (hm : x % 2 ^ (64 - 7 * k) = 0) (hn : n < 128) :
    bits BinOp.or IntKind.u64 (x : Int) (IntKind.u64.wrap ((n : Int) * 2 ^ (57 - 7 * k))) = ((x + n * 2 ^ (57 - 7 * k) : Nat) : Int) ∧ x + n * 2 ^ (57 - 7 * k) < 18446744073709551616 ∧ (x + n * 2 ^ (57 - 7 * k)) % 2 ^ (64 - 7 * (k + 1)) = 0 := by
  have hp : 2 ^ (64 - 7 * k) = 128 * 2 ^ (57 - 7 * k) := by rw [show 64 - 7 * k = 7 + (57 - 7 * k) from by omega, Nat.pow_add]
  have hP : 2 ^ (57 - 7 * k) ≤ 144115188075855872 := Nat.le_trans (Nat.pow_le_pow_right (by decide) (show 57 - 7 * k ≤ 57 from by omega)) (by decide)
  have h1 : n * 2 ^ (57 - 7 * k) < 2 ^ (64 - 7 * k) := by
    rw [hp]; exact Nat.mul_lt_mul_of_pos_right hn (Nat.two_pow_pos _)
  have h2 : n * 2 ^ (57 - 7 * k) ≤ 127 * 144115188075855872 := Nat.mul_le_mul (by omega) hP
  have e1 : ((n : Int) * 2 ^ (57 - 7 * k)) = ((n * 2 ^ (57 - 7 * k) : Nat) : Int) := by simp
  have hsum : x + n * 2 ^ (57 - 7 * k) < 18446744073709551616 := by
    -- x is a multiple of 2^(64-7k) below 2^64
    have hd : (2 ^ (64 - 7 * k)) ∣ 18446744073709551616 := by
      rw [show (18446744073709551616 : Nat) = 2 ^ 64 from by decide]
      exact Nat.pow_dvd_pow 2 (by omega)
    obtain ⟨c, hc⟩ := hd
    obtain ⟨d, hd⟩ := Nat.dvd_of_mod_eq_zero hm
    have hpos : 0 < 2 ^ (64 - 7 * k) := Nat.two_pow_pos _
    have hdc : d < c := by
      rcases Nat.lt_or_ge d c with h | h
      · exact h
      · exfalso
        have := Nat.mul_le_mul_left (2 ^ (64 - 7 * k)) h
        rw [← hd, ← hc] at this
        exact absurd hx (Nat.not_lt.2 this)
    have h3 := Nat.mul_le_mul_left (2 ^ (64 - 7 * k)) (show d + 1 ≤ c from hdc)
    rw [Nat.mul_add, ← hd, ← hc, Nat.mul_one] at h3
    exact Nat.lt_of_lt_of_le (Nat.add_lt_add_left h1 x) h3
  refine ⟨?_, hsum, ?_⟩
  · rw [e1, IntKind.wrap_u64, show ((n * 2 ^ (57 - 7 * k) : Nat) : Int) % 18446744073709551616 = ((n * 2 ^ (57 - 7 * k) : Nat) : Int) from by omega]
    rw [u64_or_nat _ _ hx (by omega), nat_join (64 - 7 * k) _ _ hm h1]
  · rw [show 64 - 7 * (k + 1) = 57 - 7 * k from by omega, Nat.add_mod, Nat.mul_mod_left]
    rw [hp] at hm
    have : x % 2 ^ (57 - 7 * k) = 0 := by
      obtain ⟨d, hd⟩ := Nat.dvd_of_mod_eq_zero hm
      rw [hd, Nat.mul_assoc, Nat.mul_left_comm, Nat.mul_mod_right]
    rw [this]; rfl

theorem orLast (x n : Nat) (hx : x < 18446744073709551616) (hm : x % 256 = 0) (hn : n < 256) :
    bits BinOp.or IntKind.u64 (x : Int) (n : Int) = ((x + n : Nat) : Int) ∧ x + n < 18446744073709551616 := by
  refine ⟨?_, by omega⟩
  rw [u64_or_nat _ _ hx (by omega), nat_join 8 _ _ hm hn]

/-- What DecodeVarfloat64's loop has read, at its end. -/
structure VEnd (xs : List Nat) (k y : Nat) : Prop where
  dec : decV 0 0 xs = some (y, xs.drop (k + 1))
  lt : y < 18446744073709551616
  len : k < xs.length
  k8 : k ≤ 8

theorem unturned_spell (x : Nat) : IntKind.u64.wrap (((rotr6 x : Nat) : Int) + 4607182418800017408) = ((unturned x : Nat) : Int) := by
  rw [IntKind.wrap_u64]; unfold unturned; omega

/-- What stands behind the loop, its numbers under names. -/
theorem v_tail (y z : Nat) (hy : y < 18446744073709551616) (hz : floatBits .sub .f64 (unturned y) 4607182418800017408 = some z) :
    ∃ ry uy : Nat, (∀ w, Calls Tryd.prog 38 #[.int .u64 y, .int .i64 (-6)] w fun e w' => e = .returned (.int .u64 ry) ∧ w = w') ∧ IntKind.u64.wrap ((ry : Int) + 4607182418800017408) = (uy : Int) ∧
      ∀ w : World, (binOp .sub 22 (.float .f64 uy) (.float .f64 4607182418800017408)).run Tryd.prog w = .ok (.float .f64 z) w :=
  ⟨rotr6 y, unturned y, fun w => rotr_any y w hy, unturned_spell y, fun w => run_float_arith (P := Tryd.prog) w .sub 22 .f64 (unturned y) 4607182418800017408 z hz⟩

set_option maxRecDepth 100000 in
set_option maxHeartbeats 800000 in
theorem decV_row (q : Nat → Prop) (p g off cp : Nat) (xs : List Nat) (z : Nat) (w : World) (hn : xs.length < 1000000000) (hcp : xs.length ≤ cp) (hcm : cp ≤ maxLen) (hb : ∀ x ∈ xs, x < 256) (hq : q g) (hgp : g ≠ p)
   (hz : ∀ y rest, decV 0 0 xs = some (y, rest) → floatBits .sub .f64 (unturned y) 4607182418800017408 = some z)
   (hc : w.cell? ⟨p, 0, none⟩ = some (.slice (some ⟨g, off, none⟩) xs.length cp)) (hf : w.frozen? ⟨p, 0, none⟩ = false) (hcell : ∀ i, (h : i < xs.length) → w.cell? ⟨g, off + i, none⟩ = some (.int .u8 (xs[i] : Int))) :
    Calls Tryd.prog 26 #[.pointer (some ⟨p, 0, none⟩)] w fun e w' => DecPost q w p (.float .f64 0) ((decV 0 0 xs).map fun r => (.float .f64 z, r.2)) e w' := by
  go_enter Tryd.func26, Tryd.ntmps26
  go_wp2
  go_loop [4, 5, 6] (fun x i s => ∃ k x' s' : Nat, k ≤ 8 ∧ k ≤ xs.length ∧ i = .int .i64 k ∧ s = .int .u64 s' ∧ x = .int .u64 x' ∧ s' ≤ 57 ∧ 1 ≤ s' ∧ Hid (s' = 57 - 7 * k) ∧ Hid (x' < 18446744073709551616 ∧ x' % 2 ^ (64 - 7 * k) = 0 ∧ decV 0 0 xs = decV k x' (xs.drop k))) (fun _ i _ => 9 - (intOf i).toNat)
  case atStart => exact ⟨0, 0, 57, by omega, by omega, rfl, rfl, rfl, by omega, by omega, rfl, by decide, by decide, rfl⟩
  case round =>
    obtain ⟨k, x', s', hk, hkl, rfl, rfl, rfl, hs, hs1, HS, HK⟩ := hrel
    by_cases hlt : k < xs.length
    · have hck := hcell k hlt
      have hbk := hb xs[k] (List.getElem_mem hlt)
      have HD : Hid (xs.drop k = xs[k] :: xs.drop (k + 1)) := List.drop_eq_getElem_cons hlt
      have HC := Lib.hid hcell; clear hcell hb
      obtain ⟨n, hne⟩ : ∃ n, n = xs[k] := ⟨_, rfl⟩
      rw [← hne] at hck hbk HD
      have HN := Lib.hid hne; clear hne
      have HZ := Lib.hid hz; clear hz
      have hrow : ∀ ao, (k + 1 = cp ∨ ao = some ⟨g, off + (k + 1), none⟩) → ∀ c', c' = cp - (k + 1) →
          RowB q (w.setCell ⟨p, 0, none⟩ (.slice ao (xs.length - (k + 1)) c')) (.slice ao (xs.length - (k + 1)) c') (xs.drop (k + 1)) := by
        intro ao h c' hc'
        refine ⟨ao, c', g, off + (k + 1), by rw [List.length_drop], by rw [List.length_drop]; omega, by omega, hq, ?_, ?_⟩
        · rcases h with h | h
          · left; apply List.drop_eq_nil_of_le; omega
          · exact .inr h
        · intro i hi
          rw [List.length_drop] at hi
          rw [World.cell?_setCell_other _ _ _ _ (by intro e; exact hgp (congrArg Addr.block e).symm)]
          have := HC.out (k + 1 + i) (by omega)
          rw [List.getElem_drop]
          rw [← Nat.add_assoc] at this
          exact this
      have HR := Lib.hid hrow; clear hrow
      by_cases h8 : k = 8
      · obtain ⟨y, hy, HV⟩ : ∃ y : Nat, bits BinOp.or IntKind.u64 (x' : Int) (n : Int) = (y : Int) ∧ Hid (VEnd xs k y) := by
          obtain ⟨e2, e3, e4⟩ := HK.out
          subst h8
          obtain ⟨f1, f2⟩ := orLast x' n e2 e3 hbk
          exact ⟨x' + n, f1, by rw [e4, HD.out, decV, if_pos rfl], f2, hlt, by omega⟩
        have h8' : ((k : Int) == 8) = true := by simp; omega
        have H8 := Lib.hid h8; clear h8
        obtain ⟨ry, uy, hrot, hun, hsub⟩ := v_tail y z HV.out.lt (HZ.out y _ HV.out.dec)
        go_wp2_with (first | (go_at_call 38; refine (hrot _).mono ?_; rintro e w' ⟨rfl, rfl⟩) | (go_at_call 39; refine (twinBits_any _ _).mono ?_; rintro e w' ⟨rfl, rfl⟩) | (go_at_call 43; refine (twinFrom_any _ _).mono ?_; rintro e w' ⟨rfl, rfl⟩))
        all_goals
          go_ret2
          show DecPost _ _ _ _ _ _ _
          rw [HV.out.dec]
          first
            | exact ⟨_, rfl, rfl, HR.out _ (.inr rfl) _ (by omega)⟩
            | exact ⟨_, rfl, rfl, HR.out _ (.inl (by omega)) _ (by omega)⟩
      · have h8' : ((k : Int) == 8) = false := by simp; omega
        by_cases h128 : n < 128
        · obtain ⟨y, hy, HV⟩ : ∃ y : Nat, bits BinOp.or IntKind.u64 (x' : Int) (IntKind.u64.wrap ((n : Int) * 2 ^ s')) = (y : Int) ∧ Hid (VEnd xs k y) := by
            obtain ⟨e2, e3, e4⟩ := HK.out
            obtain ⟨f1, f2, f3⟩ := orHigh k x' n (by omega) e2 e3 h128
            exact ⟨x' + n * 2 ^ (57 - 7 * k), by rw [HS.out]; exact f1, by rw [e4, HD.out, decV, if_neg h8, if_pos h128], f2, hlt, hk⟩
          obtain ⟨ry, uy, hrot, hun, hsub⟩ := v_tail y z HV.out.lt (HZ.out y _ HV.out.dec)
          go_wp2_with (first | (go_at_call 38; refine (hrot _).mono ?_; rintro e w' ⟨rfl, rfl⟩) | (go_at_call 39; refine (twinBits_any _ _).mono ?_; rintro e w' ⟨rfl, rfl⟩) | (go_at_call 43; refine (twinFrom_any _ _).mono ?_; rintro e w' ⟨rfl, rfl⟩))
          all_goals
            go_ret2
            show DecPost _ _ _ _ _ _ _
            rw [HV.out.dec]
            first
              | exact ⟨_, rfl, rfl, HR.out _ (.inr rfl) _ (by omega)⟩
              | exact ⟨_, rfl, rfl, HR.out _ (.inl (by omega)) _ (by omega)⟩
        · obtain ⟨y, hy, HV⟩ : ∃ y : Nat, bits BinOp.or IntKind.u64 (x' : Int) (IntKind.u64.wrap (IntKind.u64.wrap (bits BinOp.and IntKind.u8 (n : Int) 127) * 2 ^ s')) = (y : Int) ∧ Hid (y < 18446744073709551616 ∧ y % 2 ^ (64 - 7 * (k + 1)) = 0 ∧ decV 0 0 xs = decV (k + 1) y (xs.drop (k + 1))) := by
            obtain ⟨e2, e3, e4⟩ := HK.out
            obtain ⟨f1, f2, f3⟩ := orHigh k x' (n % 128) (by omega) e2 e3 (Nat.mod_lt _ (by decide))
            exact ⟨x' + n % 128 * 2 ^ (57 - 7 * k), by rw [HS.out, and127 n hbk]; exact f1, f2, f3, by rw [e4, HD.out, decV, if_neg h8, if_neg h128]⟩
          have hs8 : 7 < s' := by have := HS.out; omega
          go_wp2
          go_round
          case rel => exact ⟨k + 1, y, s' - 7, by omega, by omega, by go_num, by go_num, rfl, by omega, by omega, by have := HS.out; show _ = _; omega, HV⟩
          case measure => simp [intOf]; omega
    · go_wp2
      go_ret2
      have hkk : k = xs.length := by omega
      show DecPost _ _ _ _ _ _ _
      rw [HK.out.2.2, hkk, List.drop_length]
      exact ⟨rfl, rfl⟩

set_option maxRecDepth 100000 in
theorem decV_any (q : Nat → Prop) (p : Nat) (s : Value) (xs : List Nat) (z : Nat) (w : World) (hn : xs.length < 1000000000) (hb : ∀ x ∈ xs, x < 256) (hqp : ¬ q p)
   (hz : ∀ y rest, decV 0 0 xs = some (y, rest) → floatBits .sub .f64 (unturned y) 4607182418800017408 = some z)
   (hc : w.cell? ⟨p, 0, none⟩ = some s) (hf : w.frozen? ⟨p, 0, none⟩ = false) (hrow : RowB q w s xs) :
    Calls Tryd.prog 26 #[.pointer (some ⟨p, 0, none⟩)] w fun e w' => DecPost q w p (.float .f64 0) ((decV 0 0 xs).map fun r => (.float .f64 z, r.2)) e w' := by
  obtain ⟨ao, cp, g, off, rfl, h1, h2, h3, h4, h5⟩ := hrow
  by_cases h0 : 0 < xs.length
  · rcases h4 with h4 | rfl
    · subst h4; simp at h0
    · exact decV_row q p g off cp xs z w hn h1 h2 hb h3 (fun e => hqp (e ▸ h3)) hz hc hf h5
  · have hx : xs = [] := List.eq_nil_of_length_eq_zero (by omega)
    subst hx
    clear h5 h4 h1 hn hb h0 hz
    simp only [List.length_nil] at hc
    go_enter Tryd.func26, Tryd.ntmps26
    go_wp2
    refine wp_loop_rounds 1 ?_
    rw [rounds_succ]
    go_wp2
    go_ret2
    exact ⟨rfl, rfl⟩
end Go.Proofs.YtgjlbodclfhlfaaDoor
