/-
  EncodeVarfloat64: the buffer grows by the number's bytes, its bits turned, the highest ones first.
-/
import Derived.Test.YtgjlbodclfhlfaaDoorEncU
import Derived.Test.YtgjlbodclfhlfaaDoorRot
namespace Go.Proofs.YtgjlbodclfhlfaaDoor
open Go.RowKit

/-- What stands ahead of the loop, its numbers under names. -/
theorem v_head (fb r : Nat) (hr : floatBits .add .f64 fb 4607182418800017408 = some r) :
    ∃ a x : Nat, (∀ w : World, (binOp .add 22 (.float .f64 fb) (.float .f64 4607182418800017408)).run Tryd.prog w = .ok (.float .f64 r) w) ∧ IntKind.u64.wrap ((r : Int) - 4607182418800017408) = (a : Int) ∧
      (∀ w, Calls Tryd.prog 38 #[.int .u64 a, .int .i64 6] w fun e w' => e = .returned (.int .u64 x) ∧ w = w') ∧ x < 18446744073709551616 ∧ x = turned r := by
  refine ⟨(r + (18446744073709551616 - 4607182418800017408)) % 18446744073709551616, turned r, fun w => run_float_arith (P := Tryd.prog) w .add 22 .f64 fb 4607182418800017408 r hr, ?_, fun w => rotl_any _ w (Nat.mod_lt _ (by decide)), turned_lt r, rfl⟩
  rw [IntKind.wrap_u64]; omega

/-- The relation at the head of the loop. -/
def EncVRel (x : Nat) (p : Nat) (r : Option Nat) (xs : List Nat) (w wr : World) (u i : Value) : Prop :=
  ∃ k u' : Nat, ∃ pre : List Nat, k ≤ 8 ∧ pre.length = k ∧ i = .int .i64 k ∧ u = .int .u64 u' ∧ u' < 18446744073709551616 ∧ encV 8 x = pre ++ encV (8 - k) u' ∧ GrewTo 23 5 w wr p r (xs ++ pre)

set_option maxRecDepth 100000 in
set_option maxHeartbeats 800000 in
theorem encV_any (p : Nat) (q : Option Nat) (fb r : Nat) (xs : List Nat) (w : World) (hr : floatBits .add .f64 fb 4607182418800017408 = some r)
   (hb : Buf 23 5 w p q xs) (hn : xs.length < 1000000000) :
    Calls Tryd.prog 24 #[.pointer (some ⟨p, 0, none⟩), .float .f64 fb] w fun e w' => e = .returned (.tuple #[]) ∧ GrewTo 23 5 w w' p q (xs ++ encV 8 (turned r)) := by
  obtain ⟨a, x, hadd, hsub, hrot, hxl, hxt⟩ := v_head fb r hr
  rw [← hxt]
  clear hxt hr
  have HB := Lib.hid hb; clear hb
  go_enter Tryd.func24, Tryd.ntmps24
  go_wp2_with (first | (go_at_call 38; refine (hrot _).mono ?_; rintro e w' ⟨rfl, rfl⟩) | (go_at_call 39; refine (twinBits_any _ _).mono ?_; rintro e w' ⟨rfl, rfl⟩))
  clear hadd hsub hrot
  go_loopw [4, 5] (fun u i wr => EncVRel x p q xs w wr u i) (fun _ i _ => 8 - (intOf i).toNat)
  case atStart => exact ⟨0, x, [], by omega, rfl, rfl, rfl, hxl, rfl, by simpa using GrewTo.start HB.out⟩
  case round =>
    obtain ⟨k, u', pre, hk, hpl, rfl, rfl, hu, he, hgr⟩ := hrel
    obtain ⟨r', ⟨s, hcell, hown, hrr⟩, hfr, hr'⟩ := id hgr
    have hc := cell_of_one hcell
    have hf := free_of_one hcell
    clear hgr
    have HE := Lib.hid he; clear he
    have HC := Lib.hid hcell; clear hcell
    have HR := Lib.hid hrr; clear hrr
    have HF := Lib.hid hfr; clear hfr
    have HX := Lib.hid hr'; clear hr'
    have hl : (xs ++ pre).length < 1000000010 := by simp; omega
    have HP := Lib.hid hpl; clear hpl
    by_cases h8 : k < 8
    · by_cases hzz : u' * 128 % 18446744073709551616 = 0
      · have hz : (IntKind.u64.wrap ((u' : Int) * 128) == 0) = true := by rw [IntKind.wrap_u64]; simp; omega
        have HZ := Lib.hid hzz; clear hzz
        go_wp2_with (at_builtin; refine wpList_append_one wr (Value.int .u8 ((u' : Int) / 144115188075855872)) rfl _ _ 23 5 rfl (.int .u8 0) 1 Tryd.underlying23 Tryd.infoU8 rfl rfl s (xs ++ pre).length (cu8 (xs ++ pre)) rfl hown rfl (by omega) (by decide) ?_; intro ao2 cp2 w1 hown' hgrow hblk; have hc1 := buf_cell_behind (by decide) HC.out hown hgrow; have g := grew_step (ys := [u' / 144115188075855872]) (by decide) HC.out hown HR.out HF.out HX.out hown' hgrow hblk; simp only [List.length_append] at g; have HG := Lib.hid g; clear hown' hgrow hblk g; have hcc := cell_of_one hc1; have hff := free_of_one hc1; clear hc1)
        first | go_end0 | refine bodyPost_ret (results_none rfl _ _ _) rfl ?_
        refine ⟨rfl, ?_⟩
        have e : encV 8 x = pre ++ [u' / 144115188075855872] := by
          rw [HE.out]; congr 1
          obtain ⟨j, hj⟩ : ∃ j, 8 - k = j + 1 := ⟨7 - k, by omega⟩
          rw [hj, encV, if_pos HZ.out]
        rw [e, ← List.append_assoc]
        exact HG.out
      · have hz : (IntKind.u64.wrap ((u' : Int) * 128) == 0) = false := by rw [IntKind.wrap_u64]; simp; omega
        have HZ := Lib.hid hzz; clear hzz
        go_wp2_with (at_builtin; refine wpList_append_one wr (Value.int .u8 (bits .or .u8 ((u' : Int) / 144115188075855872) 128)) rfl _ _ 23 5 rfl (.int .u8 0) 1 Tryd.underlying23 Tryd.infoU8 rfl rfl s (xs ++ pre).length (cu8 (xs ++ pre)) rfl hown rfl (by omega) (by decide) ?_; intro ao2 cp2 w1 hown' hgrow hblk; rw [or128' u' hu] at hown'; have hc1 := buf_cell_behind (by decide) HC.out hown hgrow; have g := grew_step (ys := [u' / 144115188075855872 + 128]) (by decide) HC.out hown HR.out HF.out HX.out hown' hgrow hblk; simp only [List.length_append] at g; have HG := Lib.hid g; clear hown' hgrow hblk g; have hcc := cell_of_one hc1; have hff := free_of_one hc1; clear hc1)
        go_roundw
        case rel =>
          refine ⟨k + 1, u' * 128 % 18446744073709551616, pre ++ [u' / 144115188075855872 + 128], by omega, by have := HP.out; simp; omega, by go_num, ?_, by omega, ?_, ?_⟩
          · rw [show ((u' : Int) * 128) = ((u' * 128 : Nat) : Int) from by omega, wrap_u64_nat]
          · rw [HE.out, List.append_assoc]; congr 1
            obtain ⟨j, hj⟩ : ∃ j, 8 - k = j + 1 := ⟨7 - k, by omega⟩
            rw [hj, encV, if_neg HZ.out, show 8 - (k + 1) = j from by omega]; rfl
          · rw [← List.append_assoc]; exact HG.out
        case measure => simp [intOf]; omega
    · go_wp2_with (at_builtin; refine wpList_append_one wr (Value.int .u8 ((u' : Int) / 72057594037927936)) rfl _ _ 23 5 rfl (.int .u8 0) 1 Tryd.underlying23 Tryd.infoU8 rfl rfl s (xs ++ pre).length (cu8 (xs ++ pre)) rfl hown rfl (by omega) (by decide) ?_; intro ao2 cp2 w1 hown' hgrow hblk; have hc1 := buf_cell_behind (by decide) HC.out hown hgrow; have g := grew_step (ys := [u' / 72057594037927936]) (by decide) HC.out hown HR.out HF.out HX.out hown' hgrow hblk; simp only [List.length_append] at g; have HG := Lib.hid g; clear hown' hgrow hblk g; have hcc := cell_of_one hc1; have hff := free_of_one hc1; clear hc1)
      go_end0
      refine ⟨rfl, ?_⟩
      have e : encV 8 x = pre ++ [u' / 72057594037927936] := by
        rw [HE.out]; congr 1
        rw [show 8 - k = 0 from by omega, encV]
      rw [e, ← List.append_assoc]
      exact HG.out
end Go.Proofs.YtgjlbodclfhlfaaDoor
