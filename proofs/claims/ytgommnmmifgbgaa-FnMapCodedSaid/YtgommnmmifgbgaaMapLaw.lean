/-
  impl.MapCoded at each kind; the law FnMapCoded.
-/
import Derived.Test.YtgommnmmifgbgaaMapCd
import Derived.Test.YtgommnmmifgbgaaMapCk
import Derived.Test.YtgommnmmifgbgaaWorks
namespace Go.Proofs.Ytgommnmmifgbgaa
open Go.RowKit

/-- Both answers are true; below the call nothing has turned. -/
def BothTrue (w : World) (e : Ending) (w' : World) : Prop := e = .returned (.tuple #[.bool true, .bool true]) ∧ Below w.heap.size w w'

set_option maxRecDepth 100000 in
set_option maxHeartbeats 400000 in
theorem mapCoded_any (kind : Int) (a : Nat) (w : World)
   (h : ∀ pk pa pe po w, w.heap[pk]? = some (.cells #[.int .i64 kind] 3 (0, 0)) → w.heap[pa]? = some (.cells #[.float .f64 a] 22 (0, 0)) →
     w.heap[pe]? = some (.cells #[.bool false] 4 (0, 0)) → w.heap[po]? = some (.cells #[.bool false] 4 (0, 0)) → pe ≠ po →
     Calls Try.prog 14 #[.pointer (some ⟨pk, 0, none⟩), .pointer (some ⟨pa, 0, none⟩), .pointer (some ⟨pe, 0, none⟩), .pointer (some ⟨po, 0, none⟩)] w fun e w' => MapCdIn pe po w e w') :
    Calls Try.prog 9 #[.int .i64 kind, .float .f64 a] w fun e w' => BothTrue w e w' := by
  have hmf : ∀ (fn : Fn) (first cap : Array Value) (w : World), (Instr.makeFunc fn first cap).run Try.prog w = .ok (.func fn first cap) w := fun _ _ _ _ => rfl
  have H := quietly_any 14 #[.pointer (some ⟨w.heap.size, 0, none⟩), .pointer (some ⟨w.heap.size + 1, 0, none⟩), .pointer (some ⟨w.heap.size + 2, 0, none⟩), .pointer (some ⟨w.heap.size + 3, 0, none⟩)]
    ((((w.alloc (.cells #[.int .i64 kind] 3)).alloc (.cells #[.float .f64 a] 22)).alloc (.cells #[.bool false] 4)).alloc (.cells #[.bool false] 4))
    (fun w1 => w1.heap[w.heap.size + 2]? = some (.cells #[.bool true] 4 (0, 0)) ∧ w1.heap[w.heap.size + 3]? = some (.cells #[.bool true] 4 (0, 0)) ∧ Below w.heap.size w w1)
    (fun w => run_enter Try.func14 (by kernel_rfl) rfl _ w)
    ((h w.heap.size (w.heap.size + 1) (w.heap.size + 2) (w.heap.size + 3) _ ?h1 ?h2 ?h3 ?h4 (by omega)).mono ?h5)
  case h1 => rw [Below.heap_alloc _ _ _ (by simp <;> omega), Below.heap_alloc _ _ _ (by simp <;> omega), Below.heap_alloc _ _ _ (by simp <;> omega), Below.heap_alloc _ _ _ (by simp)]; exact heap_alloc_new w _
  case h2 => rw [Below.heap_alloc _ _ _ (by simp <;> omega), Below.heap_alloc _ _ _ (by simp <;> omega), Below.heap_alloc _ _ _ (by simp)]; have := heap_alloc_new (w.alloc (.cells #[.int .i64 kind] 3)) (.cells #[.float .f64 a] 22); simpa using this
  case h3 => rw [Below.heap_alloc _ _ _ (by simp <;> omega), Below.heap_alloc _ _ _ (by simp)]; have := heap_alloc_new ((w.alloc (.cells #[.int .i64 kind] 3)).alloc (.cells #[.float .f64 a] 22)) (.cells #[.bool false] 4); simpa using this
  case h4 => rw [Below.heap_alloc _ _ _ (by simp)]; have := heap_alloc_new (((w.alloc (.cells #[.int .i64 kind] 3)).alloc (.cells #[.float .f64 a] 22)).alloc (.cells #[.bool false] 4)) (.cells #[.bool false] 4); simpa using this
  case h5 =>
    rintro e w1 ⟨rfl, h1, h2, hfr⟩
    refine ⟨rfl, ?_, h1, h2, ?_⟩
    · have := heap_alloc_new ((((w.alloc (.cells #[.int .i64 kind] 3)).alloc (.cells #[.float .f64 a] 22)).alloc (.cells #[.bool false] 4)).alloc (.cells #[.bool false] 4)) (.cells #[.bool false] 4)
      exact hfr.heap this (by simp <;> omega)
    · exact ((((((Below.refl _ w).alloc (Nat.le_refl _) _).alloc (by simp) _).alloc (by simp <;> omega) _).alloc (by simp <;> omega) _).alloc (by simp <;> omega) _).trans (hfr.below (B := w.heap.size) (fun k h => by omega) (by simp <;> omega))
  clear h
  go_enter Try.func9, Try.ntmps9
  go_wp2_with fail
  refine H.mono ?_
  clear H
  rintro e w2 ⟨rfl, w1, ⟨he, ho, hb⟩, rfl⟩
  have hW : ((((w.alloc (.cells #[.int .i64 kind] 3)).alloc (.cells #[.float .f64 a] 22)).alloc (.cells #[.bool false] 4)).alloc (.cells #[.bool false] 4)).heap.size = w.heap.size + 4 := by simp
  rw [hW]
  clear hW
  have he2 : (w1.setCell ⟨w.heap.size + 4, 0, none⟩ (.bool true)).heap[w.heap.size + 1 + 1]? = some (.cells #[.bool true] 4 (0, 0)) := by
    rw [Below.heap_setCell _ _ _ _ (by simp)]; exact he
  have ho2 : (w1.setCell ⟨w.heap.size + 4, 0, none⟩ (.bool true)).heap[w.heap.size + 1 + 1 + 1]? = some (.cells #[.bool true] 4 (0, 0)) := by
    rw [Below.heap_setCell _ _ _ _ (by simp)]; exact ho
  have hb2 : Below w.heap.size w (w1.setCell ⟨w.heap.size + 4, 0, none⟩ (.bool true)) := hb.setCell (by simp) _
  clear he ho hb
  revert he2 ho2 hb2
  generalize w1.setCell ⟨w.heap.size + 4, 0, none⟩ (.bool true) = w3
  intro he2 ho2 hb2
  have ce := cell_of_one he2
  have fe := free_of_one he2
  have co := cell_of_one ho2
  have fo := free_of_one ho2
  have HE := Lib.hid he2
  have HO := Lib.hid ho2
  have HB := Lib.hid hb2
  have ce2 := cell_of_one (one_setCell (u := .bool true) he2)
  clear he2 ho2 hb2
  go_wp2
  refine bodyPost_ret (v := .tuple #[.bool true, .bool true]) (by simp [results, Try.results9, go_sem, co, ce2]) rfl ⟨rfl, ?_⟩
  exact (HB.out.setCell (by simp <;> omega) _).setCell (by simp <;> omega) _

theorem zn_any (x : Nat) (h : zeroOrNear x = true) (w : World) : Calls Try.prog 101 #[.float .f64 x, .float .f64 x, .float .f64 4427486594234968593] w fun e w' => e = .returned (.bool true) ∧ w = w' := by
  unfold zeroOrNear at h
  rcases Bool.or_eq_true _ _ ▸ h with h | h
  · obtain rfl : x = 0 := by simpa using h
    exact nearZero_any w
  · exact nearSame_any x w h

theorem kindLog (p : Nat) (h : chkLog p = true) : ∃ a, fdiv (floatOfInt .f64 p) 4636737291354636288 = some a ∧ ∀ w, Calls Try.prog 9 #[.int .i64 0, .float .f64 a] w fun e w' => BothTrue w e w' := by
  unfold chkLog at h
  simp only [beq_iff_eq, Option.bind_eq_some_iff, Option.map_eq_some_iff, Bool.and_eq_true, decide_eq_true_eq] at h
  obtain ⟨a, ha, r, hr, ⟨⟨⟨h1, h2⟩, h3⟩, h4⟩, h5⟩ := h
  refine ⟨a, ha, fun w => mapCoded_any 0 a w fun pk pa pe po w hk hpa he ho hne => ?_⟩
  obtain ⟨g, off, mult, mn, mx⟩ := r
  exact mapCdLog_any pk pa pe po a g off mult mn mx w h3 h4 hk hpa he ho hne hr h5 (nearSame_any g · h1) (zn_any off h2)

theorem kindLin (p : Nat) (h : chkLin p = true) : ∃ a, fdiv (floatOfInt .f64 p) 4636737291354636288 = some a ∧ ∀ w, Calls Try.prog 9 #[.int .i64 1, .float .f64 a] w fun e w' => BothTrue w e w' := by
  unfold chkLin at h
  simp only [beq_iff_eq, Option.bind_eq_some_iff, Option.map_eq_some_iff, Bool.and_eq_true, decide_eq_true_eq] at h
  obtain ⟨a, ha, r, hr, ⟨⟨⟨h1, h2⟩, h3⟩, h4⟩, h5⟩ := h
  refine ⟨a, ha, fun w => mapCoded_any 1 a w fun pk pa pe po w hk hpa he ho hne => ?_⟩
  obtain ⟨g, off, mult, mn, mx⟩ := r
  exact mapCdLin_any pk pa pe po a g off mult mn mx w h3 h4 hk hpa he ho hne hr h5 (nearSame_any g · h1) (zn_any off h2)

theorem kindCub (p : Nat) (h : chkCub p = true) : ∃ a, fdiv (floatOfInt .f64 p) 4636737291354636288 = some a ∧ ∀ w, Calls Try.prog 9 #[.int .i64 2, .float .f64 a] w fun e w' => BothTrue w e w' := by
  unfold chkCub at h
  simp only [beq_iff_eq, Option.bind_eq_some_iff, Option.map_eq_some_iff, Bool.and_eq_true, decide_eq_true_eq] at h
  obtain ⟨a, ha, r, hr, ⟨⟨⟨h1, h2⟩, h3⟩, h4⟩, h5⟩ := h
  refine ⟨a, ha, fun w => mapCoded_any 2 a w fun pk pa pe po w hk hpa he ho hne => ?_⟩
  obtain ⟨g, off, mult, mn, mx⟩ := r
  exact mapCdCub_any pk pa pe po a g off mult mn mx w h3 h4 hk hpa he ho hne hr h5 (nearSame_any g · h1) (zn_any off h2)

set_option maxRecDepth 100000 in
theorem fnMapCoded_in (kind : Int) (p a : Nat) (w : World) (hk : 0 ≤ kind) (hk2 : kind ≤ 2) (hp : 1 ≤ p) (hp2 : p ≤ 50) (ha : fdiv (floatOfInt .f64 p) 4636737291354636288 = some a)
    (h : ∀ w, Calls Try.prog 9 #[.int .i64 kind, .float .f64 a] w fun e w' => BothTrue w e w') :
    Calls Try.prog 4 #[.int .i64 kind, .int .i64 p] w fun e w' => IsTrue w e w' := by
  have g1 : ¬ kind < 0 := by omega
  have g2 : ¬ 2 < kind := by omega
  have g3 : ¬ (p : Int) < 1 := by omega
  have g4 : ¬ 50 < (p : Int) := by omega
  have hcF := fun w => run_convert_int_float (P := Try.prog) w 3 22 .i64 .f64 p (by simp [Try.underlying3]) Try.underlying22
  have hd : ∀ w : World, (binOp .quo 22 (.float .f64 (floatOfInt .f64 p)) (.float .f64 4636737291354636288)).run Try.prog w = .ok (.float .f64 a) w := fun w => run_float_arith (P := Try.prog) w .quo 22 .f64 _ _ a ha
  clear ha
  revert hcF hd
  generalize floatOfInt .f64 p = q
  intro hcF hd
  go_enter Try.func4, Try.ntmps4
  go_wp2_with (first | (go_at_call 9; refine (h _).mono ?_; rintro e w1 ⟨rfl, hb1⟩) | (go_at_call 6; refine (works_any _).mono ?_; rintro e w2 ⟨rfl, hb2⟩))
  go_ret
  exact ⟨rfl, hb1.trans (hb2.mono hb1.size)⟩

set_option maxRecDepth 100000 in
theorem fnMapCoded_out (kind p : Int) (w : World) (h : (decide (kind < 0) || decide (2 < kind) || decide (p < 1) || decide (50 < p)) = true) :
    Calls Try.prog 4 #[.int .i64 kind, .int .i64 p] w fun e w' => IsTrue w e w' := by
  simp only [Bool.or_eq_true, decide_eq_true_eq] at h
  by_cases g1 : kind < 0
  · clear h
    go_enter Try.func4, Try.ntmps4
    go_wp2_with (go_at_call 6; refine (works_any _).mono ?_; rintro e w2 ⟨rfl, hb2⟩)
    go_ret
    exact ⟨rfl, hb2⟩
  · by_cases g2 : 2 < kind
    · clear h
      go_enter Try.func4, Try.ntmps4
      go_wp2_with (go_at_call 6; refine (works_any _).mono ?_; rintro e w2 ⟨rfl, hb2⟩)
      go_ret
      exact ⟨rfl, hb2⟩
    · by_cases g3 : p < 1
      · clear h
        go_enter Try.func4, Try.ntmps4
        go_wp2_with (go_at_call 6; refine (works_any _).mono ?_; rintro e w2 ⟨rfl, hb2⟩)
        go_ret
        exact ⟨rfl, hb2⟩
      · have g4 : 50 < p := by omega
        clear h
        go_enter Try.func4, Try.ntmps4
        go_wp2_with (go_at_call 6; refine (works_any _).mono ?_; rintro e w2 ⟨rfl, hb2⟩)
        go_ret
        exact ⟨rfl, hb2⟩
end Go.Proofs.Ytgommnmmifgbgaa
