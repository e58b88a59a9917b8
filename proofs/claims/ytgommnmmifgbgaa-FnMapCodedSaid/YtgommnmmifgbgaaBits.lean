/-
  Float64bits and Float64frombits; the bytes of a number with a fraction, plainly.
-/
import Derived.Test.YtgommnmmifgbgaaProg
import Derived.Test.YtgommnmmifgbgaaFrame
namespace Go.Proofs.Ytgommnmmifgbgaa
open Go.RowKit

theorem Try.bits64 (b : Nat) (w : World) : (callFunc 72 #[.float .f64 b]).run Try.prog w = .ok (.value (.int .u64 b)) w := by
  rw [run_callFunc_extern Try.func72 (by kernel_rfl) (by kernel_rfl) (by kernel_rfl) (e := Extern.MathFloatBits.float64bits) (by kernel_rfl)]
  rfl

theorem Try.frombits64 (n : Int) (w : World) : (callFunc 64 #[.int .u64 n]).run Try.prog w = .ok (.value (.float .f64 n.toNat)) w := by
  rw [run_callFunc_extern Try.func64 (by kernel_rfl) (by kernel_rfl) (by kernel_rfl) (e := Extern.MathFloatBits.float64frombits) (by kernel_rfl)]
  rfl

/-- The bytes of a number with a fraction, its bits turned: at most k with seven bits, the highest first, then one with eight. -/
def encV : Nat → Nat → List Nat
  | 0, x => [x / 72057594037927936]
  | k + 1, x => if x * 128 % 18446744073709551616 = 0 then [x / 144115188075855872] else (x / 144115188075855872 + 128) :: encV k (x * 128 % 18446744073709551616)

/-- A number's bits turned to the left by six. -/
def rotl6 (x : Nat) : Nat := x * 64 % 18446744073709551616 + x / 288230376151711744

/-- What is laid of a float whose bits, one more, are r. -/
def turned (r : Nat) : Nat := rotl6 ((r + (18446744073709551616 - 4607182418800017408)) % 18446744073709551616)
theorem rotl6_lt (x : Nat) (h : x < 18446744073709551616) : rotl6 x < 18446744073709551616 := by unfold rotl6; omega
theorem turned_lt (r : Nat) : turned r < 18446744073709551616 := rotl6_lt _ (Nat.mod_lt _ (by decide))

theorem wrap_u64_nat (n : Nat) : IntKind.u64.wrap (n : Int) = ((n % 18446744073709551616 : Nat) : Int) := by rw [IntKind.wrap_u64]; omega

theorem turned_spell (r : Nat) : bits BinOp.or IntKind.u64 (IntKind.u64.wrap (IntKind.u64.wrap ((r : Int) - 4607182418800017408) * 64)) (IntKind.u64.wrap ((r : Int) - 4607182418800017408) / 288230376151711744) = ((turned r : Nat) : Int) := by
  have e1 : IntKind.u64.wrap ((r : Int) - 4607182418800017408) = (((r + (18446744073709551616 - 4607182418800017408)) % 18446744073709551616 : Nat) : Int) := by
    rw [IntKind.wrap_u64]; omega
  rw [e1]
  unfold turned rotl6
  have hx : (r + (18446744073709551616 - 4607182418800017408)) % 18446744073709551616 < 18446744073709551616 := Nat.mod_lt _ (by decide)
  revert hx
  generalize (r + (18446744073709551616 - 4607182418800017408)) % 18446744073709551616 = x
  intro hx
  clear e1
  have e2 : IntKind.u64.wrap ((x : Int) * 64) = ((x * 64 % 18446744073709551616 : Nat) : Int) := by
    rw [IntKind.wrap_u64]; omega
  have e3 : (x : Int) / 288230376151711744 = ((x / 288230376151711744 : Nat) : Int) := by omega
  rw [e2, e3, u64_or_nat _ _ (by omega) (by omega), nat_join 6 _ _ (by omega) (by omega)]

theorem or128' (u : Nat) (hu : u < 18446744073709551616) : bits .or .u8 ((u : Int) / 144115188075855872) 128 = ((u / 144115188075855872 + 128 : Nat) : Int) := by
  have h := u8_or_nat (u / 144115188075855872) 128 (by omega) (by omega)
  have e : ((u / 144115188075855872 : Nat) : Int) = (u : Int) / 144115188075855872 := by omega
  rw [e] at h
  rw [show ((128 : Nat) : Int) = 128 from rfl] at h
  rw [h, Nat.or_comm, nat_join 7 _ _ (by omega) (by omega), Nat.add_comm]
end Go.Proofs.Ytgommnmmifgbgaa
