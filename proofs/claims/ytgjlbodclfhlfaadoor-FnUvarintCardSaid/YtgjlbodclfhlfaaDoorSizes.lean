/-
  Uvarint64Size, Varint64Size, Varfloat64Size: how many bytes a number is laid into.
-/
import Derived.Test.YtgjlbodclfhlfaaDoorTabU
import Derived.Test.YtgjlbodclfhlfaaDoorTabV
import Derived.Test.YtgjlbodclfhlfaaDoorLen
import Derived.Test.YtgjlbodclfhlfaaDoorTz
import Derived.Test.YtgjlbodclfhlfaaDoorInt
import Derived.Test.YtgjlbodclfhlfaaDoorEncV
import Derived.Test.YtgjlbodclfhlfaaDoorPlainSizes
namespace Go.Proofs.YtgjlbodclfhlfaaDoor
open Go.RowKit

theorem Tryd.index65 (f : Nat → Nat) (j : Nat) (hj : j < 65) (w : World) : (Instr.index 60 (.agg (part65 f 65)) (.int .i64 (j : Int))).run Tryd.prog w = .ok (.int .i64 (f j : Nat)) w := by
  have h : (part65 f 65)[j]? = some (.int .i64 (f j : Nat)) := by rw [part65_get f 65 j hj, if_pos hj]
  simp [Instr.index, run_underlying Tryd.underlying60, asIntOf, part65_size, hj, go_sem]
  rw [Array.getElem?_eq_getElem (by rw [part65_size]; exact hj)] at h
  exact Option.some.inj h

/-- It hands back a number; below w nothing has turned. -/
def GivesInt (n : Nat) (w : World) (e : Ending) (w' : World) : Prop := e = .returned (.int .i64 n) ∧ Below w.heap.size w w'
/-- It hands back a table; below w nothing has turned. -/
def GivesTab (f : Nat → Nat) (w : World) (e : Ending) (w' : World) : Prop := e = .returned (.agg (part65 f 65)) ∧ Below w.heap.size w w'

set_option maxRecDepth 100000 in
theorem usz_any (w : World) : Calls Tryd.prog 36 #[] w fun e w' => GivesTab lenU w e w' := by
  have hz := Tryd.zero65
  obtain ⟨z, hzz⟩ : ∃ z, z = part65 (fun _ => 0) 0 := ⟨_, rfl⟩
  rw [← hzz] at hz
  have hzs : z.size = 65 := by rw [hzz, part65_size]
  have HZ := Lib.hid hzs
  clear hzs hzz
  have H := tabU_any (w.alloc (.cells z 60))
  go_enter Tryd.func36, Tryd.ntmps36
  go_wp2_with fail
  refine H.mono ?_
  clear H hz
  rintro e w1 ⟨rfl, hb⟩
  have h0 : w1.heap[w.heap.size]? = some (.cells z 60 (0, 0)) := (hb.block _ (by simp)).trans (heap_alloc_new w _)
  have H0 := Lib.hid h0
  have HB := Lib.hid hb
  clear h0 hb
  go_wp2_with (refine wpList_store_row rfl 60 _ _ rfl w.heap.size (part65 lenU 65) rfl rfl 60 z H0.out (by rw [part65_size]; exact Tryd.info65) (by rw [part65_size]; exact HZ.out) (part65_one _ _) ?_)
  have hr := setRow_heap w1 w.heap.size _ (part65 lenU 65) _ _ H0.out
  refine bodyPost_ret (v := .agg (part65 lenU 65)) (results_cell_row (fn := Tryd.f36) rfl _ _ w.heap.size 60 (part65 lenU 65) (0, 0) _ rfl hr Tryd.underlying60 rfl (by rw [part65_size]; exact Tryd.info65)) rfl ⟨rfl, ?_⟩
  exact (((Below.refl _ w).alloc (Nat.le_refl _) _).trans (HB.out.mono (by simp))).trans ⟨rfl, rfl, rfl, by simp, fun j hj => setRow_other w1 w.heap.size j _ (by omega)⟩

set_option maxRecDepth 100000 in
theorem uSize_any (v : Nat) (w : World) (hv : v < 18446744073709551616) : Calls Tryd.prog 19 #[.int .u64 v] w fun e w' => GivesInt (encU 8 v).length w e w' := by
  obtain ⟨h64, hlen⟩ := lenU_eq v hv
  have HL := fun w => lead64_any (v : Int) w (by omega) (by omega) (by simpa using h64)
  rw [Int.toNat_natCast] at HL
  rw [← hlen]
  clear hlen
  revert HL h64
  generalize Lib.bitLen v = n
  intro h64 HL
  obtain ⟨k, hk, HK⟩ : ∃ k : Nat, (64 - (n : Int)) = (k : Int) ∧ Hid (64 - n = k ∧ k < 65) := ⟨64 - n, by omega, rfl, by omega⟩
  rw [HK.out.1]
  have hix := fun w => Tryd.index65 lenU k HK.out.2 w
  rw [hk] at HL
  clear hk h64 hv
  obtain ⟨t, ht⟩ : ∃ t, t = part65 lenU 65 := ⟨_, rfl⟩
  have HT := Lib.hid ht
  rw [← ht] at hix
  clear ht
  have H := usz_any w
  go_enter Tryd.func19, Tryd.ntmps19
  go_wp2_with fail
  refine H.mono ?_
  clear H
  rintro e w1 ⟨rfl, hb⟩
  rw [← HT.out]
  have HB := Lib.hid hb
  clear hb
  go_wp2_with (go_at_call 37; refine (HL _).mono ?_; rintro e w' ⟨rfl, rfl⟩)
  go_ret
  exact ⟨rfl, HB.out⟩

set_option maxRecDepth 100000 in
theorem iSize_any (m : Int) (w : World) (h0 : -9223372036854775808 ≤ m) (h1 : m ≤ 9223372036854775807) : Calls Tryd.prog 20 #[.int .i64 m] w fun e w' => GivesInt (encU 8 (folded m)).length w e w' := by
  obtain ⟨k, hk, HK⟩ : ∃ k : Nat, IntKind.u64.wrap (bits .xor .i64 (m / 9223372036854775808) (wrap64 (m * 2))) = (k : Int) ∧ Hid (folded m = k) := ⟨_, fold_enc m h0 h1, rfl⟩
  have H := uSize_any k w (by rw [← HK.out]; exact folded_lt m h0 h1)
  rw [HK.out]
  clear h0 h1
  revert H
  generalize (encU 8 k).length = n
  intro H
  go_enter Tryd.func20, Tryd.ntmps20
  go_wp2_with fail
  refine H.mono ?_
  clear H
  rintro e w1 ⟨rfl, hb⟩
  have HB := Lib.hid hb
  clear hb
  go_wp2
  go_ret
  exact ⟨rfl, HB.out⟩

set_option maxRecDepth 100000 in
theorem vsz_any (w : World) : Calls Tryd.prog 40 #[] w fun e w' => GivesTab lenV w e w' := by
  have hz := Tryd.zero65
  obtain ⟨z, hzz⟩ : ∃ z, z = part65 (fun _ => 0) 0 := ⟨_, rfl⟩
  rw [← hzz] at hz
  have hzs : z.size = 65 := by rw [hzz, part65_size]
  have HZ := Lib.hid hzs
  clear hzs hzz
  have H := tabV_any (w.alloc (.cells z 60))
  go_enter Tryd.func40, Tryd.ntmps40
  go_wp2_with fail
  refine H.mono ?_
  clear H hz
  rintro e w1 ⟨rfl, hb⟩
  have h0 : w1.heap[w.heap.size]? = some (.cells z 60 (0, 0)) := (hb.block _ (by simp)).trans (heap_alloc_new w _)
  have H0 := Lib.hid h0
  have HB := Lib.hid hb
  clear h0 hb
  go_wp2_with (refine wpList_store_row rfl 60 _ _ rfl w.heap.size (part65 lenV 65) rfl rfl 60 z H0.out (by rw [part65_size]; exact Tryd.info65) (by rw [part65_size]; exact HZ.out) (part65_one _ _) ?_)
  have hr := setRow_heap w1 w.heap.size _ (part65 lenV 65) _ _ H0.out
  refine bodyPost_ret (v := .agg (part65 lenV 65)) (results_cell_row (fn := Tryd.f40) rfl _ _ w.heap.size 60 (part65 lenV 65) (0, 0) _ rfl hr Tryd.underlying60 rfl (by rw [part65_size]; exact Tryd.info65)) rfl ⟨rfl, ?_⟩
  exact (((Below.refl _ w).alloc (Nat.le_refl _) _).trans (HB.out.mono (by simp))).trans ⟨rfl, rfl, rfl, by simp, fun j hj => setRow_other w1 w.heap.size j _ (by omega)⟩

set_option maxRecDepth 100000 in
set_option maxHeartbeats 800000 in
theorem vSize_any (fb r : Nat) (w : World) (hr : floatBits .add .f64 fb 4607182418800017408 = some r) (hT : TabAt w) (hg : 1 < w.heap.size) :
    Calls Tryd.prog 21 #[.float .f64 fb] w fun e w' => GivesInt (encV 8 (turned r)).length w e w' := by
  obtain ⟨a, x, hadd, hsub, hrot, hxl, hxt⟩ := v_head fb r hr
  rw [← hxt]
  obtain ⟨h64, hlen⟩ := lenV_eq x hxl
  have HZ := fun w1 (hb : Below w.heap.size w w1) => tz64_any x hxl w1 (hT.below hb hg)
  rw [← hlen]
  clear hlen hxt hr hxl hT hg
  revert HZ h64
  generalize Lib.ctz 64 x = n
  intro h64 HZ
  have hix := fun w => Tryd.index65 lenV n (by omega) w
  obtain ⟨t, ht⟩ : ∃ t, t = part65 lenV 65 := ⟨_, rfl⟩
  have HT := Lib.hid ht
  rw [← ht] at hix
  clear ht h64
  have H := vsz_any w
  go_enter Tryd.func21, Tryd.ntmps21
  go_wp2_with (first | (go_at_call 38; refine (hrot _).mono ?_; rintro e w' ⟨rfl, rfl⟩) | (go_at_call 39; refine (twinBits_any _ _).mono ?_; rintro e w' ⟨rfl, rfl⟩))
  refine H.mono ?_
  clear H hadd hsub hrot
  rintro e w1 ⟨rfl, hb⟩
  rw [← HT.out]
  have hz := HZ w1 hb
  have HB := Lib.hid hb
  clear hb HZ
  go_wp2_with (go_at_call 41; refine hz.mono ?_; rintro e w' ⟨rfl, rfl⟩)
  go_ret
  exact ⟨rfl, HB.out⟩
end Go.Proofs.YtgjlbodclfhlfaaDoor
