/-
  DecodeFlag, leUint64, DecodeFloat64LE: what they read off a slice of bytes.
-/
import Derived.Test.YtgommnmmifgbgaaEncF
import Derived.Test.YtgommnmmifgbgaaFlags
namespace Go.Proofs.Ytgommnmmifgbgaa
open Go.RowKit

theorem le_step (v j : Nat) (hv : v < 18446744073709551616) (_hj : j < 8) :
    bits BinOp.or IntKind.u64 (IntKind.u64.wrap (((v / 2 ^ (8 * (j + 1)) : Nat) : Int) * 2 ^ 8)) (((v / 2 ^ (8 * j) % 256 : Nat) : Int)) = ((v / 2 ^ (8 * j) : Nat) : Int) := by
  have h1 : v / 2 ^ (8 * (j + 1)) = v / 2 ^ (8 * j) / 256 := by
    rw [show 8 * (j + 1) = 8 * j + 8 from by omega, Nat.pow_add, ← Nat.div_div_eq_div_mul]
  rw [h1]
  have hle : v / 2 ^ (8 * j) ≤ v := Nat.div_le_self _ _
  generalize v / 2 ^ (8 * j) = y at *
  rw [IntKind.wrap_u64, show ((y / 256 : Nat) : Int) * 2 ^ 8 % 18446744073709551616 = ((y / 256 * 256 : Nat) : Int) from by omega]
  rw [u64_or_nat _ _ (by omega) (by omega), nat_join 8 _ _ (by omega) (by omega)]
  omega

/-- In the row at g, off on there lie the eight bytes of v. -/
def Has8 (w : World) (g off v : Nat) : Prop := ∀ i, i < 8 → w.cell? ⟨g, off + i, none⟩ = some (.int .u8 ((v / 2 ^ (8 * i) % 256 : Nat) : Int))

set_option maxRecDepth 100000 in
set_option maxHeartbeats 400000 in
theorem leU_any (g off n c v : Nat) (hv : v < 18446744073709551616) (hn : 8 ≤ n) (hm : n < 1000000000) (w : World) (h : Has8 w g off v) :
    Calls Try.prog 47 #[.slice (some ⟨g, off, none⟩) n c] w fun e w' => e = .returned (.int .u64 v) ∧ w = w' := by
  have h7 := h 7 (by omega)
  have H := Lib.hid h; clear h
  go_enter Try.func47, Try.ntmps47
  go_wp2
  clear h7
  go_loop [3, 4] (fun x i => ∃ k y : Nat, k ≤ 8 ∧ i = .int .i64 ((k : Int) - 1) ∧ x = .int .u64 (y : Int) ∧ Hid (y = v / 2 ^ (8 * k))) (fun _ i => (intOf i + 1).toNat)
  case atStart => exact ⟨8, 0, by omega, rfl, rfl, by show _ = _; omega⟩
  case round =>
    obtain ⟨k, y, hk, rfl, rfl, HY⟩ := hrel
    by_cases h0 : 0 < k
    · obtain ⟨j, rfl⟩ : ∃ j, k = j + 1 := ⟨k - 1, by omega⟩
      have hc := H.out j (by omega)
      obtain ⟨z, hz⟩ : ∃ z, z = v / 2 ^ (8 * j) % 256 := ⟨_, rfl⟩
      have hb : z < 256 := by omega
      have hs : ∃ u : Nat, bits BinOp.or IntKind.u64 (IntKind.u64.wrap ((y : Int) * 2 ^ 8)) (z : Int) = (u : Int) ∧ Hid (u = v / 2 ^ (8 * j)) := by
        refine ⟨_, ?_, rfl⟩
        rw [HY.out, hz]; exact le_step v j hv (by omega)
      rw [← hz] at hc
      clear hz
      obtain ⟨u, hu, HU⟩ := hs
      have hu2 : bits BinOp.or IntKind.u64 (IntKind.u64.wrap ((y : Int) * 256)) (z : Int) = (u : Int) := hu
      rw [show ((j + 1 : Nat) : Int) - 1 = (j : Int) from by omega]
      clear h0
      go_wp2
      go_round
      case rel => exact ⟨j, u, by omega, rfl, rfl, HU⟩
      case measure => simp [intOf]
    · obtain rfl : k = 0 := by omega
      have hy : y = v := by have := HY.out; simpa using this
      subst hy
      go_wp2
      go_ret
      exact ⟨rfl, rfl⟩

/-- s[m:]: where it points then, or it has no capacity left. -/
theorem run_slice_tail {P : Program} (t e : TypeId) (ht : P.underlying t = some (.slice e)) (g off n c m : Nat) (h1 : m ≤ n) (_h2 : n ≤ c) (hz : ∀ w, (sizeOf e).run P w = .ok 1 w) :
    ∃ ao, (m = c ∨ ao = some ⟨g, off + m, none⟩) ∧ ∀ w, (Instr.slice t (.slice (some ⟨g, off, none⟩) n c) (some (.int .i64 (m : Int))) none none).run P w = .ok (.slice ao (n - m) (c - m)) w := by
  have hh : (m : Int) ≤ (n : Int) := by omega
  by_cases hne : c = m
  · subst hne
    refine ⟨some ⟨g, off, none⟩, .inl rfl, fun w => ?_⟩
    simp [Instr.slice, run_underlying ht, Instr.sliceBounds, go_sem, hh, hz]
  · refine ⟨some ⟨g, off + m, none⟩, .inr rfl, fun w => ?_⟩
    simp [Instr.slice, run_underlying ht, Instr.sliceBounds, go_sem, hh, hz, hne]

/-- v is handed back; the slice at p starts m places farther on. -/
def Took (v : Value) (p g off n c m : Nat) (w : World) (e : Ending) (w' : World) : Prop :=
  ∃ ao, e = .returned (.tuple #[v, .nilIface]) ∧ w' = w.setCell ⟨p, 0, none⟩ (.slice ao (n - m) (c - m)) ∧ (m = c ∨ ao = some ⟨g, off + m, none⟩)

set_option maxRecDepth 100000 in
set_option maxHeartbeats 400000 in
theorem decF_any (p g off n c v : Nat) (hv : v < 18446744073709551616) (hn : 8 ≤ n) (hm : n < 1000000000) (hnc : n ≤ c) (w : World) (h : Has8 w g off v)
    (hp : w.heap[p]? = some (.cells #[.slice (some ⟨g, off, none⟩) n c] 36 (0, 0))) :
    Calls Try.prog 38 #[.pointer (some ⟨p, 0, none⟩)] w fun e w' => Took (.float .f64 v) p g off n c 8 w e w' := by
  obtain ⟨ao, hao, hsl⟩ := run_slice_tail (P := Try.prog) 36 5 Try.underlying36 g off n c 8 hn hnc Try.sizeU8
  have hsl2 : ∀ w, (Instr.slice 36 (.slice (some ⟨g, off, none⟩) n c) (some (.int .i64 8)) none none).run Try.prog w = .ok (.slice ao (n - 8) (c - 8)) w := hsl
  clear hsl
  have HAO := Lib.hid hao; clear hao
  have hc := cell_of_one hp
  have hf := free_of_one hp
  have hlt : ¬ (n : Int) < 8 := by omega
  have HU := leU_any g off n c v hv hn hm w h
  clear h hp
  go_enter Try.func38, Try.ntmps38
  go_wp2_with (first | (go_at_call 47; (with_reducible refine HU.mono ?_); rintro e w' ⟨rfl, rfl⟩) | (go_at_call 46; (with_reducible refine (twinFrom_any v w).mono ?_); rintro e w' ⟨rfl, rfl⟩))
  go_ret2
  exact ⟨ao, rfl, rfl, HAO.out⟩

/-- The flag f is handed back; the slice at p starts one place farther on; below the call nothing else has turned. -/
def TookFlag (f p g off n c : Nat) (w : World) (e : Ending) (w' : World) : Prop :=
  ∃ ao, e = .returned (.tuple #[.agg #[.int .u8 f], .nilIface]) ∧ w'.heap[p]? = some (.cells #[.slice ao (n - 1) (c - 1)] 36 (0, 0)) ∧ (1 = c ∨ ao = some ⟨g, off + 1, none⟩) ∧ Fr (fun k => k = p) w w'

set_option maxRecDepth 100000 in
set_option maxHeartbeats 400000 in
theorem decFlag_any (p g off n c f : Nat) (hn : 0 < n) (hm : n < 1000000000) (hnc : n ≤ c) (w : World) (h : w.cell? ⟨g, off, none⟩ = some (.int .u8 f))
    (hp : w.heap[p]? = some (.cells #[.slice (some ⟨g, off, none⟩) n c] 36 (0, 0))) :
    Calls Try.prog 15 #[.pointer (some ⟨p, 0, none⟩)] w fun e w' => TookFlag f p g off n c w e w' := by
  obtain ⟨ao, hao, hsl⟩ := run_slice_tail (P := Try.prog) 36 5 Try.underlying36 g off n c 1 hn hnc Try.sizeU8
  have hsl2 : ∀ w, (Instr.slice 36 (.slice (some ⟨g, off, none⟩) n c) (some (.int .i64 1)) none none).run Try.prog w = .ok (.slice ao (n - 1) (c - 1)) w := hsl
  clear hsl
  have HAO := Lib.hid hao; clear hao
  have hc := cell_of_one hp
  have hf := free_of_one hp
  have hpl := lt_of_block hp
  have hlt : ((n : Int) == 0) = false := by simp; omega
  have hgl := World.block_lt_of_cell? w _ h
  have HP := Lib.hid hp
  clear hp
  go_enter Try.func15, Try.ntmps15
  go_wp2
  refine bodyPost_ret (v := .tuple #[.agg #[.int .u8 f], .nilIface]) (by simp [results, Try.results15, go_sem]) rfl ⟨ao, rfl, ?_, HAO.out, ?_⟩
  · rw [Below.heap_alloc _ _ _ (by simp; omega), Below.heap_alloc _ _ _ (by simp; omega)]
    exact one_setCell HP.out
  · exact (((Fr.refl (fun k => k = p) w).setCell (fun _ => rfl) _).alloc _).alloc _
end Go.Proofs.Ytgommnmmifgbgaa
