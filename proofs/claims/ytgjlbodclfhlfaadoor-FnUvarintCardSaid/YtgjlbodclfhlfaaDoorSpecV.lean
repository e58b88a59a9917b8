/-
  spec.Varfloat: the bytes of a number with a fraction.
-/
import Derived.Test.YtgjlbodclfhlfaaDoorWorks
import Derived.Test.YtgjlbodclfhlfaaDoorBits
namespace Go.Proofs.YtgjlbodclfhlfaaDoor
open Go.RowKit

/-- The relation at the head of spec.Varfloat's loop. -/
def SpecVRel (x : Nat) (w wr : World) (u v : Value) : Prop :=
  ∃ u' : Nat, ∃ pre : List Nat, ∃ ao n1 cp, pre.length ≤ 8 ∧ u = .int .u64 u' ∧ v = .slice ao n1 cp ∧ n1 = pre.length ∧ u' < 18446744073709551616 ∧ encV 8 x = pre ++ encV (8 - pre.length) u' ∧ OwnB 5 w wr v pre
/-- How many elements a slice has. -/
def lenOf : Value → Nat | .slice _ n _ => n | _ => 0

set_option maxRecDepth 100000 in
set_option maxHeartbeats 400000 in
theorem specV_any (fb r : Nat) (w : World) (hr : floatBits .add .f64 fb 4607182418800017408 = some r) :
    Calls Tryd.prog 6 #[.float .f64 fb] w fun e w' => GivesBytes (encV 8 (turned r)) w e w' := by
  have hadd := fun w : World => run_float_arith (P := Tryd.prog) w .add 22 .f64 fb 4607182418800017408 r hr
  have hbits := Tryd.bits64
  clear hr
  obtain ⟨x, hx, hxl, hxt⟩ : ∃ x : Nat, bits BinOp.or IntKind.u64 (IntKind.u64.wrap (IntKind.u64.wrap ((r : Int) - 4607182418800017408) * 64)) (IntKind.u64.wrap ((r : Int) - 4607182418800017408) / 288230376151711744) = (x : Int) ∧ x < 18446744073709551616 ∧ x = turned r :=
    ⟨turned r, turned_spell r, turned_lt r, rfl⟩
  rw [← hxt]
  have HX := Lib.hid hxt; clear hxt
  go_enter Tryd.func6, Tryd.ntmps6
  go_wp2
  clear hx
  go_loopw [3, 4] (fun u v wr => SpecVRel x w wr u v) (fun _ v _ => 8 - lenOf v)
  case atStart => exact ⟨x, [], _, _, _, by simp, rfl, rfl, rfl, hxl, by simp, OwnB.nil _ _⟩
  case round =>
    obtain ⟨u', pre, ao, n1, cp, hpl, rfl, rfl, rfl, hu, he, hob⟩ := hrel
    clear hadd hbits
    have hown := hob.1.1
    have HO := Lib.hid hob; clear hob
    have HE := Lib.hid he; clear he
    by_cases h8 : pre.length < 8
    · by_cases hzz : u' * 128 % 18446744073709551616 = 0
      · have hz : (IntKind.u64.wrap ((u' : Int) * 128) == 0) = true := by rw [IntKind.wrap_u64]; simp; omega
        have HZ := Lib.hid hzz; clear hzz
        go_wp2_with (at_builtin; refine wpList_append_one wr (Value.int .u8 ((u' : Int) / 144115188075855872)) rfl _ _ 23 5 rfl (.int .u8 0) 1 Tryd.underlying23 Tryd.infoU8 rfl rfl _ pre.length (cu8 pre) rfl hown rfl (by omega) (by decide) ?_; intro ao2 cp2 w1 hown' hgrow hblk)
        have G : Hid (GivesBytes (encV 8 x) w (.returned (.slice ao2 (pre.length + 1) cp2)) w1) := by
          have e : encV 8 x = pre ++ [u' / 144115188075855872] := by
            rw [HE.out]; congr 1
            obtain ⟨j, hj⟩ : ∃ j, 8 - pre.length = j + 1 := ⟨7 - pre.length, by omega⟩
            rw [hj, encV, if_pos HZ.out]
          exact ⟨ao2, _, cp2, rfl, e ▸ HO.out.step hown' hgrow hblk⟩
        clear hown' hgrow hblk hown
        go_ret
        exact G.out
      · have hz : (IntKind.u64.wrap ((u' : Int) * 128) == 0) = false := by rw [IntKind.wrap_u64]; simp; omega
        have HZ := Lib.hid hzz; clear hzz
        go_wp2_with (at_builtin; refine wpList_append_one wr (Value.int .u8 (bits .or .u8 ((u' : Int) / 144115188075855872) 128)) rfl _ _ 23 5 rfl (.int .u8 0) 1 Tryd.underlying23 Tryd.infoU8 rfl rfl _ pre.length (cu8 pre) rfl hown rfl (by omega) (by decide) ?_; intro ao2 cp2 w1 hown' hgrow hblk)
        rw [or128' u' hu] at hown'
        have G := Lib.hid (HO.out.step hown' hgrow hblk)
        clear hown' hgrow hblk hown
        go_roundw
        case rel =>
          refine ⟨u' * 128 % 18446744073709551616, pre ++ [u' / 144115188075855872 + 128], _, _, _, by simp; omega, ?_, rfl, by simp, by omega, ?_, G.out⟩
          · rw [show ((u' : Int) * 128) = ((u' * 128 : Nat) : Int) from by omega, wrap_u64_nat]
          · rw [HE.out, List.append_assoc]; congr 1
            obtain ⟨j, hj⟩ : ∃ j, 8 - pre.length = j + 1 := ⟨7 - pre.length, by omega⟩
            rw [hj, encV, if_neg HZ.out, List.length_append, show 8 - (pre.length + [u' / 144115188075855872 + 128].length) = j from by simp; omega]; rfl
        case measure => simp [lenOf]; omega
    · go_wp2_with (at_builtin; refine wpList_append_one wr (Value.int .u8 ((u' : Int) / 72057594037927936)) rfl _ _ 23 5 rfl (.int .u8 0) 1 Tryd.underlying23 Tryd.infoU8 rfl rfl _ pre.length (cu8 pre) rfl hown rfl (by omega) (by decide) ?_; intro ao2 cp2 w1 hown' hgrow hblk)
      have G : Hid (GivesBytes (encV 8 x) w (.returned (.slice ao2 (pre.length + 1) cp2)) w1) := by
        have e : encV 8 x = pre ++ [u' / 72057594037927936] := by
          rw [HE.out]; congr 1
          rw [show 8 - pre.length = 0 from by omega, encV]
        exact ⟨ao2, _, cp2, rfl, e ▸ HO.out.step hown' hgrow hblk⟩
      clear hown' hgrow hblk hown
      go_ret
      exact G.out
end Go.Proofs.YtgjlbodclfhlfaaDoor
