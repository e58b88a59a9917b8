/-
  Numbers with a sign: folded, laid, read.
-/
import Derived.Test.YtgjlbodclfhlfaaDoorEncU
import Derived.Test.YtgjlbodclfhlfaaDoorDecU
namespace Go.Proofs.YtgjlbodclfhlfaaDoor
open Go.RowKit

theorem ofInt_toNat64 (a : Int) : ((BitVec.ofInt 64 a).toNat : Int) = a % 18446744073709551616 := by
  rw [BitVec.toNat_ofInt]; omega

theorem xor64 (k : IntKind) (hk : k = .u64 ∨ k = .i64) (a b : Int) : IntKind.u64.wrap (bits .xor k a b) = ((BitVec.ofInt 64 a ^^^ BitVec.ofInt 64 b).toNat : Int) := by
  have hlt := (BitVec.ofInt 64 a ^^^ BitVec.ofInt 64 b).isLt
  rcases hk with rfl | rfl
  · show IntKind.u64.wrap (IntKind.u64.wrap ((BitVec.ofInt 64 a ^^^ BitVec.ofInt 64 b).toNat : Int)) = _
    rw [IntKind.wrap_u64, IntKind.wrap_u64]; omega
  · show IntKind.u64.wrap (IntKind.i64.wrap ((BitVec.ofInt 64 a ^^^ BitVec.ofInt 64 b).toNat : Int)) = _
    rw [IntKind.wrap_u64, IntKind.wrap_i64]; omega

theorem xor_zero64 (b : Int) : ((BitVec.ofInt 64 0 ^^^ BitVec.ofInt 64 b).toNat : Int) = b % 18446744073709551616 := by
  rw [show BitVec.ofInt 64 0 = 0#64 from rfl, BitVec.zero_xor, ofInt_toNat64]
theorem xor_ones64 (b : Int) : ((BitVec.ofInt 64 (-1) ^^^ BitVec.ofInt 64 b).toNat : Int) = 18446744073709551615 - b % 18446744073709551616 := by
  rw [show BitVec.ofInt 64 (-1) = BitVec.allOnes 64 from by decide, BitVec.allOnes_xor, BitVec.toNat_not]
  have h := ofInt_toNat64 b
  have := (BitVec.ofInt 64 b).isLt
  omega
theorem bits_comm_u (a b : Int) : bits .xor .u64 a b = bits .xor .u64 b a := by
  show IntKind.u64.wrap ((BitVec.ofInt 64 a ^^^ BitVec.ofInt 64 b).toNat : Int) = IntKind.u64.wrap ((BitVec.ofInt 64 b ^^^ BitVec.ofInt 64 a).toNat : Int)
  rw [BitVec.xor_comm]
theorem xor_u_wrap (a b : Int) : IntKind.u64.wrap (bits .xor .u64 a b) = bits .xor .u64 a b := by
  show IntKind.u64.wrap (IntKind.u64.wrap ((BitVec.ofInt 64 a ^^^ BitVec.ofInt 64 b).toNat : Int)) = IntKind.u64.wrap ((BitVec.ofInt 64 a ^^^ BitVec.ofInt 64 b).toNat : Int)
  rw [IntKind.wrap_u64, IntKind.wrap_u64]; omega
/-- A number with a sign as one without. -/
def folded (m : Int) : Nat := if 0 ≤ m then (2 * m).toNat else (-2 * m - 1).toNat
/-- .. and back. -/
def unfolded (n : Nat) : Int := if n % 2 = 0 then (n / 2 : Nat) else -((n / 2 : Nat) : Int) - 1
theorem fold_enc (m : Int) (h0 : -9223372036854775808 ≤ m) (h1 : m ≤ 9223372036854775807) : IntKind.u64.wrap (bits .xor .i64 (m / 9223372036854775808) (wrap64 (m * 2))) = ((folded m : Nat) : Int) := by
  rw [xor64 .i64 (.inr rfl)]
  unfold folded wrap64
  by_cases h : 0 ≤ m
  · rw [show m / 9223372036854775808 = 0 from by omega, xor_zero64, if_pos h]; omega
  · rw [show m / 9223372036854775808 = -1 from by omega, xor_ones64, if_neg h]; omega
theorem fold_spec (m : Int) (h0 : -9223372036854775808 ≤ m) (h1 : m ≤ 9223372036854775807) : bits .xor .u64 (IntKind.u64.wrap (wrap64 (m * 2))) (IntKind.u64.wrap (m / 9223372036854775808)) = ((folded m : Nat) : Int) := by
  rw [bits_comm_u, ← xor_u_wrap, xor64 .u64 (.inl rfl)]
  unfold folded wrap64
  rw [IntKind.wrap_u64, IntKind.wrap_u64]
  by_cases h : 0 ≤ m
  · rw [show m / 9223372036854775808 % 18446744073709551616 = 0 from by omega, xor_zero64, if_pos h]; omega
  · rw [show m / 9223372036854775808 % 18446744073709551616 = 18446744073709551615 from by omega, show BitVec.ofInt 64 18446744073709551615 = BitVec.ofInt 64 (-1) from by decide, xor_ones64, if_neg h]; omega
theorem unfold_spell (n : Nat) (hn : n < 18446744073709551616) : wrap64 (bits .xor .u64 ((n : Int) / 2) (IntKind.u64.wrap (-bits .and .u64 (n : Int) 1))) = unfolded n := by
  have ha := u64_and_nat n 1 hn (by omega)
  rw [show ((1 : Nat) : Int) = 1 from rfl] at ha
  rw [ha, nat_mask1, bits_comm_u, ← xor_u_wrap, xor64 .u64 (.inl rfl)]
  unfold unfolded wrap64
  rw [IntKind.wrap_u64]
  by_cases h : n % 2 = 0
  · rw [h, show (-((0 : Nat) : Int)) % 18446744073709551616 = 0 from rfl, xor_zero64, if_pos rfl]; omega
  · rw [show n % 2 = 1 from by omega, show (-((1 : Nat) : Int)) % 18446744073709551616 = 18446744073709551615 from rfl, show BitVec.ofInt 64 18446744073709551615 = BitVec.ofInt 64 (-1) from by decide, xor_ones64, if_neg (by decide)]; omega

theorem unfolded_folded (m : Int) : unfolded (folded m) = m := by
  unfold unfolded folded; split <;> split <;> omega

theorem folded_lt (m : Int) (h0 : -9223372036854775808 ≤ m) (h1 : m ≤ 9223372036854775807) : folded m < 18446744073709551616 := by
  unfold folded; split <;> omega

set_option maxRecDepth 100000 in
theorem folded_any (m : Int) (w : World) (h0 : -9223372036854775808 ≤ m) (h1 : m ≤ 9223372036854775807) :
    Calls Tryd.prog 11 #[.int .i64 m] w fun e w' => e = .returned (.int .u64 (folded m : Nat)) ∧ w = w' := by
  obtain ⟨k, hk, HK⟩ : ∃ k : Nat, bits .xor .u64 (IntKind.u64.wrap (wrap64 (m * 2))) (IntKind.u64.wrap (m / 9223372036854775808)) = (k : Int) ∧ Hid (folded m = k) := ⟨_, fold_spec m h0 h1, rfl⟩
  rw [HK.out]
  clear h0 h1
  go_enter Tryd.func11, Tryd.ntmps11
  go_wp2
  go_ret
  exact ⟨rfl, rfl⟩

set_option maxRecDepth 100000 in
theorem encI_any (p : Nat) (r : Option Nat) (m : Int) (xs : List Nat) (w : World) (h0 : -9223372036854775808 ≤ m) (h1 : m ≤ 9223372036854775807)
   (hb : Buf 23 5 w p r xs) (hn : xs.length < 1000000000) :
    Calls Tryd.prog 34 #[.pointer (some ⟨p, 0, none⟩), .int .i64 m] w fun e w' => e = .returned (.tuple #[]) ∧ GrewTo 23 5 w w' p r (xs ++ encU 8 (folded m)) := by
  obtain ⟨k, hk, HK⟩ : ∃ k : Nat, IntKind.u64.wrap (bits .xor .i64 (m / 9223372036854775808) (wrap64 (m * 2))) = (k : Int) ∧ Hid (folded m = k) := ⟨_, fold_enc m h0 h1, rfl⟩
  have H := encU_any p r k xs w (by rw [← HK.out]; exact folded_lt m h0 h1) hb hn
  rw [HK.out]
  clear h0 h1 hb hn
  go_enter Tryd.func34, Tryd.ntmps34
  go_wp2_with fail
  refine H.mono ?_
  clear H
  rintro e w1 ⟨rfl, hg⟩
  have G := Lib.hid hg; clear hg
  go_wp2
  go_end0
  exact ⟨rfl, G.out⟩

theorem decU_lt (xs : List Nat) (hb : ∀ x ∈ xs, x < 256) : ∀ (i acc : Nat), i ≤ 8 → acc < 128 ^ i → ∀ v rest, decU i acc xs = some (v, rest) → v < 18446744073709551616 := by
  induction xs with
  | nil => intro i acc _ _ v rest h; simp [decU] at h
  | cons n t ih =>
    intro i acc hi ha v rest h
    rw [decU] at h
    have hn := hb n (by simp)
    have hp := pow128_le hi
    split at h
    · have h1 : n * 128 ^ i ≤ 255 * 72057594037927936 := Nat.mul_le_mul (by omega) hp
      cases h
      omega
    · exact ih (fun x hx => hb x (by simp [hx])) (i + 1) _ (by omega) (acc_lt ha (by omega)) v rest h

set_option maxRecDepth 100000 in
theorem decI_any (q : Nat → Prop) (p : Nat) (s : Value) (xs : List Nat) (w : World) (hn : xs.length < 1000000000) (hb : ∀ x ∈ xs, x < 256) (hqp : ¬ q p)
   (hc : w.cell? ⟨p, 0, none⟩ = some s) (hf : w.frozen? ⟨p, 0, none⟩ = false) (hrow : RowB q w s xs) :
    Calls Tryd.prog 30 #[.pointer (some ⟨p, 0, none⟩)] w fun e w' => DecPost q w p (.int .i64 0) ((decU 0 0 xs).map fun r => (.int .i64 (unfolded r.1), r.2)) e w' := by
  have H := decU_any q p s xs w hn hb hqp hc hf hrow
  have hlt := decU_lt xs hb 0 0 (by omega) (by decide)
  clear hb hn hrow hc hf
  revert H hlt
  generalize decU 0 0 xs = R
  intro H hlt
  cases R with
  | none =>
    have hu := unfold_spell 0 (by decide)
    rw [show unfolded 0 = 0 from rfl, show ((0 : Nat) : Int) = 0 from rfl] at hu
    go_enter Tryd.func30, Tryd.ntmps30
    go_wp2_with fail
    refine H.mono ?_
    clear H
    intro e w' hd
    obtain ⟨rfl, rfl⟩ := hd
    unfold eofV
    have HU := Lib.hid hu
    clear hu
    go_wp2
    go_ret2
    refine ⟨?_, rfl⟩
    show Ending.returned (.tuple #[.int .i64 (wrap64 (bits BinOp.xor IntKind.u64 0 (IntKind.u64.wrap (-bits BinOp.and IntKind.u64 0 1)))), eofV]) = _
    have HU' : wrap64 (bits BinOp.xor IntKind.u64 0 (IntKind.u64.wrap (-bits BinOp.and IntKind.u64 0 1))) = 0 := HU.out
    rw [HU']
  | some r =>
    obtain ⟨k, hk, HK⟩ : ∃ k : Int, wrap64 (bits .xor .u64 ((r.1 : Int) / 2) (IntKind.u64.wrap (-bits .and .u64 (r.1 : Int) 1))) = k ∧ Hid (unfolded r.1 = k) := ⟨_, unfold_spell r.1 (hlt r.1 r.2 rfl), rfl⟩
    clear hlt
    simp only [Option.map]
    rw [HK.out]
    have HKK := Lib.hid hk
    clear hk
    go_enter Tryd.func30, Tryd.ntmps30
    go_wp2_with fail
    refine H.mono ?_
    clear H
    intro e w' hd
    obtain ⟨s2, rfl, hw, hr⟩ := hd
    have HW := Lib.hid hw
    have HR := Lib.hid hr
    clear hw hr
    go_wp2
    go_ret2
    refine ⟨s2, ?_, HW.out, HR.out⟩
    show Ending.returned (.tuple #[.int .i64 (wrap64 (bits .xor .u64 ((r.1 : Int) / 2) (IntKind.u64.wrap (-bits .and .u64 (r.1 : Int) 1)))), .nilIface]) = _
    rw [HKK.out]
end Go.Proofs.YtgjlbodclfhlfaaDoor
