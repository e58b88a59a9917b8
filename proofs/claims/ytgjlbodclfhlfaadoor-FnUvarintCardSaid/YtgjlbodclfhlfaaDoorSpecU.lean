/-
  spec.Uvarint: the bytes of a number, as EncodeUvarint64 lays them.
-/
import Derived.Test.YtgjlbodclfhlfaaDoorWorks
namespace Go.Proofs.YtgjlbodclfhlfaaDoor
open Go.RowKit

/-- The relation at the head of spec.Uvarint's loop. -/
def SpecURel (n : Nat) (w wr : World) (u v : Value) : Prop :=
  ∃ u' : Nat, ∃ pre : List Nat, ∃ ao n1 cp, pre.length ≤ 8 ∧ u = .int .u64 u' ∧ v = .slice ao n1 cp ∧ n1 = pre.length ∧ u' < 18446744073709551616 ∧ encU 8 n = pre ++ encU (8 - pre.length) u' ∧ OwnB 5 w wr v pre

set_option maxRecDepth 100000 in
set_option maxHeartbeats 400000 in
theorem specU_any (n : Nat) (w : World) (hn : n < 18446744073709551616) :
    Calls Tryd.prog 10 #[.int .u64 n] w fun e w' => GivesBytes (encU 8 n) w e w' := by
  go_enter Tryd.func10, Tryd.ntmps10
  go_wp2
  go_loopw [0, 3] (fun u v wr => SpecURel n w wr u v) (fun u _ _ => (intOf u).toNat)
  case atStart => exact ⟨n, [], _, _, _, by simp, rfl, rfl, rfl, hn, by simp, OwnB.nil _ _⟩
  case round =>
    obtain ⟨u', pre, ao, n1, cp, hpl, rfl, rfl, rfl, hu, he, hob⟩ := hrel
    have hown := hob.1.1
    have HO := Lib.hid hob; clear hob
    have HE := Lib.hid he; clear he
    have HU := Lib.hid hu; clear hu
    by_cases h8 : pre.length < 8
    · by_cases h128 : u' < 128
      · have h128' : ¬ 128 ≤ u' := by omega
        go_wp2_with (at_builtin; refine wpList_append_one wr (Value.int .u8 ((u' : Int))) rfl _ _ 23 5 rfl (.int .u8 0) 1 Tryd.underlying23 Tryd.infoU8 rfl rfl _ pre.length (cu8 pre) rfl hown rfl (by omega) (by decide) ?_; intro ao2 cp2 w1 hown' hgrow hblk)
        have G : Hid (GivesBytes (encU 8 n) w (.returned (.slice ao2 (pre.length + 1) cp2)) w1) := by
          have e : encU 8 n = pre ++ [u'] := by
            rw [HE.out]; congr 1
            obtain ⟨j, hj⟩ : ∃ j, 8 - pre.length = j + 1 := ⟨7 - pre.length, by omega⟩
            rw [hj, encU, if_pos h128]
          exact ⟨ao2, _, cp2, rfl, e ▸ HO.out.step hown' hgrow hblk⟩
        clear hown' hgrow hblk hown
        go_ret
        exact G.out
      · have h128' : 128 ≤ u' := by omega
        go_wp2_with (at_builtin; refine wpList_append_one wr (Value.int .u8 (bits .or .u8 ((u' : Int) % 256) 128)) rfl _ _ 23 5 rfl (.int .u8 0) 1 Tryd.underlying23 Tryd.infoU8 rfl rfl _ pre.length (cu8 pre) rfl hown rfl (by omega) (by decide) ?_; intro ao2 cp2 w1 hown' hgrow hblk)
        rw [or128] at hown'
        have G := Lib.hid (HO.out.step hown' hgrow hblk)
        clear hown' hgrow hblk hown
        go_roundw
        case rel =>
          refine ⟨u' / 128, pre ++ [u' % 128 + 128], _, _, _, by simp; omega, by go_num, rfl, by simp, by have := HU.out; omega, ?_, G.out⟩
          rw [HE.out, List.append_assoc]; congr 1
          obtain ⟨j, hj⟩ : ∃ j, 8 - pre.length = j + 1 := ⟨7 - pre.length, by omega⟩
          rw [hj, encU, if_neg h128, List.length_append, show 8 - (pre.length + [u' % 128 + 128].length) = j from by simp; omega]; rfl
        case measure => simp [intOf]; omega
    · go_wp2_with (at_builtin; refine wpList_append_one wr (Value.int .u8 ((u' : Int) % 256)) rfl _ _ 23 5 rfl (.int .u8 0) 1 Tryd.underlying23 Tryd.infoU8 rfl rfl _ pre.length (cu8 pre) rfl hown rfl (by omega) (by decide) ?_; intro ao2 cp2 w1 hown' hgrow hblk)
      have G : Hid (GivesBytes (encU 8 n) w (.returned (.slice ao2 (pre.length + 1) cp2)) w1) := by
        have e : encU 8 n = pre ++ [u' % 256] := by
          rw [HE.out]; congr 1
          rw [show 8 - pre.length = 0 from by omega, encU]
        exact ⟨ao2, _, cp2, rfl, e ▸ HO.out.step hown' hgrow hblk⟩
      clear hown' hgrow hblk hown
      go_ret
      exact G.out
end Go.Proofs.YtgjlbodclfhlfaaDoor
