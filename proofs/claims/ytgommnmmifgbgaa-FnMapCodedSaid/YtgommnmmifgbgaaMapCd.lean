/-
  impl.MapCoded's closure: a mapping is made, encoded, decoded, and compared. (Printed by gen_mapcoded.py.)
-/
import Derived.Test.YtgommnmmifgbgaaMapEnc
import Derived.Test.YtgommnmmifgbgaaQuiet
namespace Go.Proofs.Ytgommnmmifgbgaa
open Go.RowKit

theorem leB_get (v n i : Nat) (h : i < (leB v n).length) : (leB v n)[i] = v / 2 ^ (8 * i) % 256 := by simp [leB]

/-- A buffer with a flag and two floats: where its bytes lie. -/
theorem buf17 {w : World} {p f g off : Nat} {r : Option Nat} (h : Buf 36 5 w p r ([] ++ [f] ++ leB g 8 ++ leB off 8)) :
    ∃ q c, w.heap[p]? = some (.cells #[.slice (some ⟨q, 0, none⟩) 17 c] 36 (0, 0)) ∧ 17 ≤ c ∧ r = some q ∧ q ≠ p ∧ w.cell? ⟨q, 0, none⟩ = some (.int .u8 f) ∧ Has8 w q 1 g ∧ Has8 w q 9 off := by
  obtain ⟨s, hc, ho, hr⟩ := h
  obtain ⟨ao, n', c, rfl⟩ := owns_slice ho
  have hne := buf_apart (by decide) hc ho
  obtain ⟨q, rfl, rfl, h1, h2, h3⟩ := owns_some ho (by simp [leB_len])
  have hl : ([] ++ [f] ++ leB g 8 ++ leB off 8).length = 17 := by simp [leB_len]
  rw [hl] at hc h1
  refine ⟨q, c, hc, h1, hr.symm, fun e => hne (by rw [e]; rfl), ?_, ?_, ?_⟩
  · have := h3 0 (by rw [hl]; omega)
    simpa using this
  · intro i hi
    have := h3 (1 + i) (by rw [hl]; omega)
    rw [Nat.zero_add] at this
    rw [this, List.getElem_append_left (by simp [leB_len]; omega), List.getElem_append_right (by simp)]
    simp [leB_get]
  · intro i hi
    have := h3 (9 + i) (by rw [hl]; omega)
    rw [Nat.zero_add] at this
    rw [this, List.getElem_append_right (by simp [leB_len])]
    simp [leB_get, leB_len]

/-- What the closure leaves. -/
def MapCdIn (pe po : Nat) (w : World) (e : Ending) (w' : World) : Prop :=
  e = .returned (.tuple #[]) ∧ w'.heap[pe]? = some (.cells #[.bool true] 4 (0, 0)) ∧ w'.heap[po]? = some (.cells #[.bool true] 4 (0, 0)) ∧ Fr (fun k => k = pe ∨ k = po) w w'

theorem methEncLog (a : Addr) (w : World) : (method 229 60 (.pointer (some a)) "Encode").run Try.prog w = .ok (91, .pointer (some a)) w := by kernel_rfl
theorem methEqLog (a : Addr) (w : World) : (method 229 60 (.pointer (some a)) "Equals").run Try.prog w = .ok (92, .pointer (some a)) w := by kernel_rfl

set_option maxRecDepth 100000 in
set_option maxHeartbeats 1000000 in
theorem mapCdLog_any (pk pa pe po a g off mult mn mx : Nat) (w : World) (hg : g < 18446744073709551616) (ho : off < 18446744073709551616)
   (hk : w.heap[pk]? = some (.cells #[.int .i64 0] 3 (0, 0))) (ha : w.heap[pa]? = some (.cells #[.float .f64 a] 22 (0, 0)))
   (hpe : w.heap[pe]? = some (.cells #[.bool false] 4 (0, 0))) (hpo : w.heap[po]? = some (.cells #[.bool false] 4 (0, 0))) (hne : pe ≠ po)
   (hmk : ofLogF a = some (g, off, mult, mn, mx)) (hmk2 : newLogF g off = some (mult, mn, mx))
   (h1 : ∀ w, Calls Try.prog 101 #[.float .f64 g, .float .f64 g, .float .f64 4427486594234968593] w fun e w' => e = .returned (.bool true) ∧ w = w')
   (h2 : ∀ w, Calls Try.prog 101 #[.float .f64 off, .float .f64 off, .float .f64 4427486594234968593] w fun e w' => e = .returned (.bool true) ∧ w = w') :
    Calls Try.prog 14 #[.pointer (some ⟨pk, 0, none⟩), .pointer (some ⟨pa, 0, none⟩), .pointer (some ⟨pe, 0, none⟩), .pointer (some ⟨po, 0, none⟩)] w fun e w' => MapCdIn pe po w e w' := by
  have me := methEncLog
  have mq := methEqLog
  have ck := cell_of_one hk
  have ca := cell_of_one ha
  have HM := mapped_log a g off mult mn mx w hmk
  have HPE := Lib.hid hpe
  have HPO := Lib.hid hpo
  clear hk ha hpe hpo hmk
  go_enter Try.func14, Try.ntmps14
  go_wp2_with fail
  refine HM.mono ?_
  clear HM
  rintro e w1 ⟨m, rfl, hm, hm5, hb1⟩
  have HM5 := Lib.hid hm5
  have HB1 := Lib.hid hb1
  have hz1 := hb1.size
  clear hm5 hb1 ck ca
  have hml : m < w1.heap.size := lt_of_block HM5.out
  have hpel := lt_of_block HPE.out
  have hpol := lt_of_block HPO.out
  have B2 : Buf 36 5 ((w1.alloc (.cells #[] 5)).alloc (.cells #[.slice (some ⟨w1.heap.size, 0, none⟩) 0 0] 36)) (w1.heap.size + 1) (some w1.heap.size) [] :=
    ⟨.slice (some ⟨w1.heap.size, 0, none⟩) 0 0, by have := heap_alloc_new (w1.alloc (.cells #[] 5)) (.cells #[.slice (some ⟨w1.heap.size, 0, none⟩) 0 0] 36); simpa using this,
      (World.ownsRow_made w1 #[] 0 (Nat.zero_le _) (by decide) rfl).alloc _, rfl⟩
  have F2 : Fr (fun _ => False) w ((w1.alloc (.cells #[] 5)).alloc (.cells #[.slice (some ⟨w1.heap.size, 0, none⟩) 0 0] 36)) := (((Fr.of_below HB1.out).mono (fun i hi h => by omega)).alloc _).alloc _
  have M2 : Five 88 ((w1.alloc (.cells #[] 5)).alloc (.cells #[.slice (some ⟨w1.heap.size, 0, none⟩) 0 0] 36)) m g off mult mn mx := by
    show _ = _
    rw [Below.heap_alloc _ _ _ (by simp; omega), Below.heap_alloc _ _ _ (by omega)]; exact HM5.out
  have HE := encLog_any m (w1.heap.size + 1) g off mult mn mx (some w1.heap.size) [] _ M2 (by omega) (by intro e; cases e; omega) B2 (by simp)
  have hz2 : ((w1.alloc (.cells #[] 5)).alloc (.cells #[.slice (some ⟨w1.heap.size, 0, none⟩) 0 0] 36)).heap.size = w1.heap.size + 2 := by simp
  have HM2 := Lib.hid M2
  have HF2 := Lib.hid F2
  clear B2 M2 F2
  go_wp2_with fail
  revert HE hz2 HM2 HF2
  generalize ((w1.alloc (.cells #[] 5)).alloc (.cells #[.slice (some ⟨w1.heap.size, 0, none⟩) 0 0] 36)) = w2
  intro HE hz2 HM2 HF2
  obtain ⟨p, hp⟩ : ∃ p, p = w1.heap.size + 1 := ⟨_, rfl⟩
  rw [← hp] at HE ⊢
  have HPP := Lib.hid hp
  have HZ2 := Lib.hid hz2
  clear hp hz2
  refine HE.mono ?_
  clear HE
  rintro e w3 ⟨rfl, hg3⟩
  obtain ⟨r3, B3, F3, R3⟩ := id hg3
  have M3 : Five 88 w3 m g off mult mn mx := hg3.heap HM2.out (by have := HPP.out; omega) (by intro e; cases e; omega)
  obtain ⟨q, c, hc17, hc, rfl, hqp, hcf, hg8, ho8⟩ := buf17 B3
  have hqw : w1.heap.size ≤ q := by
    have := HZ2.out
    rcases R3 with h | ⟨k, h, hk⟩
    · cases h; exact Nat.le_refl _
    · cases h; omega
  have hz3 := F3.size
  have G3 : Fr (fun _ => False) w w3 := HF2.out.trans F3 (fun _ _ h => h) (by
    intro i hi h
    have := HPP.out
    rcases h with h | h
    · omega
    · cases h; omega)
  have HD := decFlag_any p q 0 17 c 2 (by omega) (by omega) hc w3 hcf hc17
  have HM3 := Lib.hid M3
  have HG3 := Lib.hid G3
  have HG8 := Lib.hid hg8
  have HO8 := Lib.hid ho8
  clear hg3 B3 F3 R3 M3 hc17 hcf G3 hg8 ho8
  go_wp2_with fail
  refine HD.mono ?_
  clear HD
  rintro e w4 ⟨ao, rfl, hp4, ha4, hf4⟩
  obtain rfl : ao = some ⟨q, 0 + 1, none⟩ := by
    rcases ha4 with h | h
    · omega
    · exact h
  have hpq : q ≠ p := hqp
  have hz4 := hf4.size
  have hpw : w1.heap.size + 1 ≤ p := by have := HPP.out; omega
  have hpl4 := lt_of_block hp4
  have hql3 : q < w3.heap.size := World.block_lt_of_cell? w3 _ (HG8.out 0 (by omega))
  have f5 : Fr (fun k => k = p) w3 (w4.alloc (.cells #[.int .u8 2] 50)) := hf4.alloc _
  have HT := decLog_any p q 1 (c - 1) g off mult mn mx hg ho (by omega) hpq (w4.alloc (.cells #[.int .u8 2] 50)) (HG8.out.other f5 hqp) (HO8.out.other f5 hqp) (by rw [Below.heap_alloc _ _ _ hpl4]; exact hp4) hmk2
  have HF5 := Lib.hid f5
  clear hp4 ha4 hf4 f5 hmk2
  go_wp2_with fail
  refine HT.mono ?_
  clear HT
  rintro e w6 ⟨n, ao, c6, rfl, hn, h5, hp6, hf6⟩
  have hz6 := hf6.size
  have hz5 := HF5.out.size
  have cp6 := cell_of_one hp6
  have f6 : Fr (fun k => k = p) w3 w6 := HF5.out.trans hf6 (fun _ _ h => h) (fun _ _ h => h)
  have M6 : Five 88 w6 m g off mult mn mx := f6.heap HM3.out (by omega)
  have G6 : Fr (fun _ => False) w w6 := HG3.out.trans f6 (fun _ _ h => h) (fun i hi h => by omega)
  have E1 := eqLog_any n m g off mult mn mx mult mn mx w6 h5 M6 h1 h2
  have E2 := fun k => eqLog_any m n g off mult mn mx mult mn mx (w6.drewN k) M6 h5 h1 h2
  have hpe6 : w6.heap[pe]? = some (.cells #[.bool false] 4 (0, 0)) := G6.heap HPE.out (fun h => h)
  have hpo6 : w6.heap[po]? = some (.cells #[.bool false] 4 (0, 0)) := G6.heap HPO.out (fun h => h)
  have fe := free_of_one hpe6
  have fo := free_of_one hpo6
  have ce := cell_of_one hpe6
  have co := cell_of_one hpo6
  have HPE6 := Lib.hid hpe6
  have HPO6 := Lib.hid hpo6
  have HG6 := Lib.hid G6
  clear hpe6 hpo6 G6 f6 M6 h5 hp6 hf6 h1 h2
  go_wp2_with (first | (go_at_call 92; first | ((with_reducible refine E1.mono ?_); rintro e w7 ⟨rfl, k7, rfl⟩) | ((with_reducible refine (E2 k7).mono ?_); rintro e w8 ⟨rfl, k8, rfl⟩)))
  go_end0
  have e1 : ((w6.drewN (k7 + k8)).setCell ⟨pe, 0, none⟩ (.bool true)).heap[pe]? = some (.cells #[.bool true] 4 (0, 0)) := one_setCell (w := w6.drewN (k7 + k8)) HPE6.out
  have e2 : ((w6.drewN (k7 + k8)).setCell ⟨pe, 0, none⟩ (.bool true)).heap[po]? = some (.cells #[.bool false] 4 (0, 0)) := by
    rw [Below.heap_setCell _ _ _ _ (fun e => hne e.symm)]; exact HPO6.out
  refine ⟨rfl, ?_, one_setCell e2, ?_⟩
  · rw [Below.heap_setCell _ _ _ _ hne]; exact e1
  · exact ((((HG6.out.drewN (k7 + k8)).mono (U := fun k => k = pe ∨ k = po) (fun _ _ h => h.elim)).setCell (fun _ => .inl rfl) _).setCell (fun _ => .inr rfl) _)

theorem methEncLin (a : Addr) (w : World) : (method 229 63 (.pointer (some a)) "Encode").run Try.prog w = .ok (103, .pointer (some a)) w := by kernel_rfl
theorem methEqLin (a : Addr) (w : World) : (method 229 63 (.pointer (some a)) "Equals").run Try.prog w = .ok (104, .pointer (some a)) w := by kernel_rfl

set_option maxRecDepth 100000 in
set_option maxHeartbeats 1000000 in
theorem mapCdLin_any (pk pa pe po a g off mult mn mx : Nat) (w : World) (hg : g < 18446744073709551616) (ho : off < 18446744073709551616)
   (hk : w.heap[pk]? = some (.cells #[.int .i64 1] 3 (0, 0))) (ha : w.heap[pa]? = some (.cells #[.float .f64 a] 22 (0, 0)))
   (hpe : w.heap[pe]? = some (.cells #[.bool false] 4 (0, 0))) (hpo : w.heap[po]? = some (.cells #[.bool false] 4 (0, 0))) (hne : pe ≠ po)
   (hmk : ofLinF a = some (g, off, mult, mn, mx)) (hmk2 : newLinF g off = some (mult, mn, mx))
   (h1 : ∀ w, Calls Try.prog 101 #[.float .f64 g, .float .f64 g, .float .f64 4427486594234968593] w fun e w' => e = .returned (.bool true) ∧ w = w')
   (h2 : ∀ w, Calls Try.prog 101 #[.float .f64 off, .float .f64 off, .float .f64 4427486594234968593] w fun e w' => e = .returned (.bool true) ∧ w = w') :
    Calls Try.prog 14 #[.pointer (some ⟨pk, 0, none⟩), .pointer (some ⟨pa, 0, none⟩), .pointer (some ⟨pe, 0, none⟩), .pointer (some ⟨po, 0, none⟩)] w fun e w' => MapCdIn pe po w e w' := by
  have me := methEncLin
  have mq := methEqLin
  have ck := cell_of_one hk
  have ca := cell_of_one ha
  have HM := mapped_lin a g off mult mn mx w hmk
  have HPE := Lib.hid hpe
  have HPO := Lib.hid hpo
  clear hk ha hpe hpo hmk
  go_enter Try.func14, Try.ntmps14
  go_wp2_with fail
  refine HM.mono ?_
  clear HM
  rintro e w1 ⟨m, rfl, hm, hm5, hb1⟩
  have HM5 := Lib.hid hm5
  have HB1 := Lib.hid hb1
  have hz1 := hb1.size
  clear hm5 hb1 ck ca
  have hml : m < w1.heap.size := lt_of_block HM5.out
  have hpel := lt_of_block HPE.out
  have hpol := lt_of_block HPO.out
  have B2 : Buf 36 5 ((w1.alloc (.cells #[] 5)).alloc (.cells #[.slice (some ⟨w1.heap.size, 0, none⟩) 0 0] 36)) (w1.heap.size + 1) (some w1.heap.size) [] :=
    ⟨.slice (some ⟨w1.heap.size, 0, none⟩) 0 0, by have := heap_alloc_new (w1.alloc (.cells #[] 5)) (.cells #[.slice (some ⟨w1.heap.size, 0, none⟩) 0 0] 36); simpa using this,
      (World.ownsRow_made w1 #[] 0 (Nat.zero_le _) (by decide) rfl).alloc _, rfl⟩
  have F2 : Fr (fun _ => False) w ((w1.alloc (.cells #[] 5)).alloc (.cells #[.slice (some ⟨w1.heap.size, 0, none⟩) 0 0] 36)) := (((Fr.of_below HB1.out).mono (fun i hi h => by omega)).alloc _).alloc _
  have M2 : Five 89 ((w1.alloc (.cells #[] 5)).alloc (.cells #[.slice (some ⟨w1.heap.size, 0, none⟩) 0 0] 36)) m g off mult mn mx := by
    show _ = _
    rw [Below.heap_alloc _ _ _ (by simp; omega), Below.heap_alloc _ _ _ (by omega)]; exact HM5.out
  have HE := encLin_any m (w1.heap.size + 1) g off mult mn mx (some w1.heap.size) [] _ M2 (by omega) (by intro e; cases e; omega) B2 (by simp)
  have hz2 : ((w1.alloc (.cells #[] 5)).alloc (.cells #[.slice (some ⟨w1.heap.size, 0, none⟩) 0 0] 36)).heap.size = w1.heap.size + 2 := by simp
  have HM2 := Lib.hid M2
  have HF2 := Lib.hid F2
  clear B2 M2 F2
  go_wp2_with fail
  revert HE hz2 HM2 HF2
  generalize ((w1.alloc (.cells #[] 5)).alloc (.cells #[.slice (some ⟨w1.heap.size, 0, none⟩) 0 0] 36)) = w2
  intro HE hz2 HM2 HF2
  obtain ⟨p, hp⟩ : ∃ p, p = w1.heap.size + 1 := ⟨_, rfl⟩
  rw [← hp] at HE ⊢
  have HPP := Lib.hid hp
  have HZ2 := Lib.hid hz2
  clear hp hz2
  refine HE.mono ?_
  clear HE
  rintro e w3 ⟨rfl, hg3⟩
  obtain ⟨r3, B3, F3, R3⟩ := id hg3
  have M3 : Five 89 w3 m g off mult mn mx := hg3.heap HM2.out (by have := HPP.out; omega) (by intro e; cases e; omega)
  obtain ⟨q, c, hc17, hc, rfl, hqp, hcf, hg8, ho8⟩ := buf17 B3
  have hqw : w1.heap.size ≤ q := by
    have := HZ2.out
    rcases R3 with h | ⟨k, h, hk⟩
    · cases h; exact Nat.le_refl _
    · cases h; omega
  have hz3 := F3.size
  have G3 : Fr (fun _ => False) w w3 := HF2.out.trans F3 (fun _ _ h => h) (by
    intro i hi h
    have := HPP.out
    rcases h with h | h
    · omega
    · cases h; omega)
  have HD := decFlag_any p q 0 17 c 6 (by omega) (by omega) hc w3 hcf hc17
  have HM3 := Lib.hid M3
  have HG3 := Lib.hid G3
  have HG8 := Lib.hid hg8
  have HO8 := Lib.hid ho8
  clear hg3 B3 F3 R3 M3 hc17 hcf G3 hg8 ho8
  go_wp2_with fail
  refine HD.mono ?_
  clear HD
  rintro e w4 ⟨ao, rfl, hp4, ha4, hf4⟩
  obtain rfl : ao = some ⟨q, 0 + 1, none⟩ := by
    rcases ha4 with h | h
    · omega
    · exact h
  have hpq : q ≠ p := hqp
  have hz4 := hf4.size
  have hpw : w1.heap.size + 1 ≤ p := by have := HPP.out; omega
  have hpl4 := lt_of_block hp4
  have hql3 : q < w3.heap.size := World.block_lt_of_cell? w3 _ (HG8.out 0 (by omega))
  have f5 : Fr (fun k => k = p) w3 (w4.alloc (.cells #[.int .u8 6] 50)) := hf4.alloc _
  have HT := decLin_any p q 1 (c - 1) g off mult mn mx hg ho (by omega) hpq (w4.alloc (.cells #[.int .u8 6] 50)) (HG8.out.other f5 hqp) (HO8.out.other f5 hqp) (by rw [Below.heap_alloc _ _ _ hpl4]; exact hp4) hmk2
  have HF5 := Lib.hid f5
  clear hp4 ha4 hf4 f5 hmk2
  go_wp2_with fail
  refine HT.mono ?_
  clear HT
  rintro e w6 ⟨n, ao, c6, rfl, hn, h5, hp6, hf6⟩
  have hz6 := hf6.size
  have hz5 := HF5.out.size
  have cp6 := cell_of_one hp6
  have f6 : Fr (fun k => k = p) w3 w6 := HF5.out.trans hf6 (fun _ _ h => h) (fun _ _ h => h)
  have M6 : Five 89 w6 m g off mult mn mx := f6.heap HM3.out (by omega)
  have G6 : Fr (fun _ => False) w w6 := HG3.out.trans f6 (fun _ _ h => h) (fun i hi h => by omega)
  have E1 := eqLin_any n m g off mult mn mx mult mn mx w6 h5 M6 h1 h2
  have E2 := fun k => eqLin_any m n g off mult mn mx mult mn mx (w6.drewN k) M6 h5 h1 h2
  have hpe6 : w6.heap[pe]? = some (.cells #[.bool false] 4 (0, 0)) := G6.heap HPE.out (fun h => h)
  have hpo6 : w6.heap[po]? = some (.cells #[.bool false] 4 (0, 0)) := G6.heap HPO.out (fun h => h)
  have fe := free_of_one hpe6
  have fo := free_of_one hpo6
  have ce := cell_of_one hpe6
  have co := cell_of_one hpo6
  have HPE6 := Lib.hid hpe6
  have HPO6 := Lib.hid hpo6
  have HG6 := Lib.hid G6
  clear hpe6 hpo6 G6 f6 M6 h5 hp6 hf6 h1 h2
  go_wp2_with (first | (go_at_call 104; first | ((with_reducible refine E1.mono ?_); rintro e w7 ⟨rfl, k7, rfl⟩) | ((with_reducible refine (E2 k7).mono ?_); rintro e w8 ⟨rfl, k8, rfl⟩)))
  go_end0
  have e1 : ((w6.drewN (k7 + k8)).setCell ⟨pe, 0, none⟩ (.bool true)).heap[pe]? = some (.cells #[.bool true] 4 (0, 0)) := one_setCell (w := w6.drewN (k7 + k8)) HPE6.out
  have e2 : ((w6.drewN (k7 + k8)).setCell ⟨pe, 0, none⟩ (.bool true)).heap[po]? = some (.cells #[.bool false] 4 (0, 0)) := by
    rw [Below.heap_setCell _ _ _ _ (fun e => hne e.symm)]; exact HPO6.out
  refine ⟨rfl, ?_, one_setCell e2, ?_⟩
  · rw [Below.heap_setCell _ _ _ _ hne]; exact e1
  · exact ((((HG6.out.drewN (k7 + k8)).mono (U := fun k => k = pe ∨ k = po) (fun _ _ h => h.elim)).setCell (fun _ => .inl rfl) _).setCell (fun _ => .inr rfl) _)

theorem methEncCub (a : Addr) (w : World) : (method 229 66 (.pointer (some a)) "Encode").run Try.prog w = .ok (118, .pointer (some a)) w := by kernel_rfl
theorem methEqCub (a : Addr) (w : World) : (method 229 66 (.pointer (some a)) "Equals").run Try.prog w = .ok (119, .pointer (some a)) w := by kernel_rfl

set_option maxRecDepth 100000 in
set_option maxHeartbeats 1000000 in
theorem mapCdCub_any (pk pa pe po a g off mult mn mx : Nat) (w : World) (hg : g < 18446744073709551616) (ho : off < 18446744073709551616)
   (hk : w.heap[pk]? = some (.cells #[.int .i64 2] 3 (0, 0))) (ha : w.heap[pa]? = some (.cells #[.float .f64 a] 22 (0, 0)))
   (hpe : w.heap[pe]? = some (.cells #[.bool false] 4 (0, 0))) (hpo : w.heap[po]? = some (.cells #[.bool false] 4 (0, 0))) (hne : pe ≠ po)
   (hmk : ofCubF a = some (g, off, mult, mn, mx)) (hmk2 : newCubF g off = some (mult, mn, mx))
   (h1 : ∀ w, Calls Try.prog 101 #[.float .f64 g, .float .f64 g, .float .f64 4427486594234968593] w fun e w' => e = .returned (.bool true) ∧ w = w')
   (h2 : ∀ w, Calls Try.prog 101 #[.float .f64 off, .float .f64 off, .float .f64 4427486594234968593] w fun e w' => e = .returned (.bool true) ∧ w = w') :
    Calls Try.prog 14 #[.pointer (some ⟨pk, 0, none⟩), .pointer (some ⟨pa, 0, none⟩), .pointer (some ⟨pe, 0, none⟩), .pointer (some ⟨po, 0, none⟩)] w fun e w' => MapCdIn pe po w e w' := by
  have me := methEncCub
  have mq := methEqCub
  have ck := cell_of_one hk
  have ca := cell_of_one ha
  have HM := mapped_cub a g off mult mn mx w hmk
  have HPE := Lib.hid hpe
  have HPO := Lib.hid hpo
  clear hk ha hpe hpo hmk
  go_enter Try.func14, Try.ntmps14
  go_wp2_with fail
  refine HM.mono ?_
  clear HM
  rintro e w1 ⟨m, rfl, hm, hm5, hb1⟩
  have HM5 := Lib.hid hm5
  have HB1 := Lib.hid hb1
  have hz1 := hb1.size
  clear hm5 hb1 ck ca
  have hml : m < w1.heap.size := lt_of_block HM5.out
  have hpel := lt_of_block HPE.out
  have hpol := lt_of_block HPO.out
  have B2 : Buf 36 5 ((w1.alloc (.cells #[] 5)).alloc (.cells #[.slice (some ⟨w1.heap.size, 0, none⟩) 0 0] 36)) (w1.heap.size + 1) (some w1.heap.size) [] :=
    ⟨.slice (some ⟨w1.heap.size, 0, none⟩) 0 0, by have := heap_alloc_new (w1.alloc (.cells #[] 5)) (.cells #[.slice (some ⟨w1.heap.size, 0, none⟩) 0 0] 36); simpa using this,
      (World.ownsRow_made w1 #[] 0 (Nat.zero_le _) (by decide) rfl).alloc _, rfl⟩
  have F2 : Fr (fun _ => False) w ((w1.alloc (.cells #[] 5)).alloc (.cells #[.slice (some ⟨w1.heap.size, 0, none⟩) 0 0] 36)) := (((Fr.of_below HB1.out).mono (fun i hi h => by omega)).alloc _).alloc _
  have M2 : Five 90 ((w1.alloc (.cells #[] 5)).alloc (.cells #[.slice (some ⟨w1.heap.size, 0, none⟩) 0 0] 36)) m g off mult mn mx := by
    show _ = _
    rw [Below.heap_alloc _ _ _ (by simp; omega), Below.heap_alloc _ _ _ (by omega)]; exact HM5.out
  have HE := encCub_any m (w1.heap.size + 1) g off mult mn mx (some w1.heap.size) [] _ M2 (by omega) (by intro e; cases e; omega) B2 (by simp)
  have hz2 : ((w1.alloc (.cells #[] 5)).alloc (.cells #[.slice (some ⟨w1.heap.size, 0, none⟩) 0 0] 36)).heap.size = w1.heap.size + 2 := by simp
  have HM2 := Lib.hid M2
  have HF2 := Lib.hid F2
  clear B2 M2 F2
  go_wp2_with fail
  revert HE hz2 HM2 HF2
  generalize ((w1.alloc (.cells #[] 5)).alloc (.cells #[.slice (some ⟨w1.heap.size, 0, none⟩) 0 0] 36)) = w2
  intro HE hz2 HM2 HF2
  obtain ⟨p, hp⟩ : ∃ p, p = w1.heap.size + 1 := ⟨_, rfl⟩
  rw [← hp] at HE ⊢
  have HPP := Lib.hid hp
  have HZ2 := Lib.hid hz2
  clear hp hz2
  refine HE.mono ?_
  clear HE
  rintro e w3 ⟨rfl, hg3⟩
  obtain ⟨r3, B3, F3, R3⟩ := id hg3
  have M3 : Five 90 w3 m g off mult mn mx := hg3.heap HM2.out (by have := HPP.out; omega) (by intro e; cases e; omega)
  obtain ⟨q, c, hc17, hc, rfl, hqp, hcf, hg8, ho8⟩ := buf17 B3
  have hqw : w1.heap.size ≤ q := by
    have := HZ2.out
    rcases R3 with h | ⟨k, h, hk⟩
    · cases h; exact Nat.le_refl _
    · cases h; omega
  have hz3 := F3.size
  have G3 : Fr (fun _ => False) w w3 := HF2.out.trans F3 (fun _ _ h => h) (by
    intro i hi h
    have := HPP.out
    rcases h with h | h
    · omega
    · cases h; omega)
  have HD := decFlag_any p q 0 17 c 14 (by omega) (by omega) hc w3 hcf hc17
  have HM3 := Lib.hid M3
  have HG3 := Lib.hid G3
  have HG8 := Lib.hid hg8
  have HO8 := Lib.hid ho8
  clear hg3 B3 F3 R3 M3 hc17 hcf G3 hg8 ho8
  go_wp2_with fail
  refine HD.mono ?_
  clear HD
  rintro e w4 ⟨ao, rfl, hp4, ha4, hf4⟩
  obtain rfl : ao = some ⟨q, 0 + 1, none⟩ := by
    rcases ha4 with h | h
    · omega
    · exact h
  have hpq : q ≠ p := hqp
  have hz4 := hf4.size
  have hpw : w1.heap.size + 1 ≤ p := by have := HPP.out; omega
  have hpl4 := lt_of_block hp4
  have hql3 : q < w3.heap.size := World.block_lt_of_cell? w3 _ (HG8.out 0 (by omega))
  have f5 : Fr (fun k => k = p) w3 (w4.alloc (.cells #[.int .u8 14] 50)) := hf4.alloc _
  have HT := decCub_any p q 1 (c - 1) g off mult mn mx hg ho (by omega) hpq (w4.alloc (.cells #[.int .u8 14] 50)) (HG8.out.other f5 hqp) (HO8.out.other f5 hqp) (by rw [Below.heap_alloc _ _ _ hpl4]; exact hp4) hmk2
  have HF5 := Lib.hid f5
  clear hp4 ha4 hf4 f5 hmk2
  go_wp2_with fail
  refine HT.mono ?_
  clear HT
  rintro e w6 ⟨n, ao, c6, rfl, hn, h5, hp6, hf6⟩
  have hz6 := hf6.size
  have hz5 := HF5.out.size
  have cp6 := cell_of_one hp6
  have f6 : Fr (fun k => k = p) w3 w6 := HF5.out.trans hf6 (fun _ _ h => h) (fun _ _ h => h)
  have M6 : Five 90 w6 m g off mult mn mx := f6.heap HM3.out (by omega)
  have G6 : Fr (fun _ => False) w w6 := HG3.out.trans f6 (fun _ _ h => h) (fun i hi h => by omega)
  have E1 := eqCub_any n m g off mult mn mx mult mn mx w6 h5 M6 h1 h2
  have E2 := fun k => eqCub_any m n g off mult mn mx mult mn mx (w6.drewN k) M6 h5 h1 h2
  have hpe6 : w6.heap[pe]? = some (.cells #[.bool false] 4 (0, 0)) := G6.heap HPE.out (fun h => h)
  have hpo6 : w6.heap[po]? = some (.cells #[.bool false] 4 (0, 0)) := G6.heap HPO.out (fun h => h)
  have fe := free_of_one hpe6
  have fo := free_of_one hpo6
  have ce := cell_of_one hpe6
  have co := cell_of_one hpo6
  have HPE6 := Lib.hid hpe6
  have HPO6 := Lib.hid hpo6
  have HG6 := Lib.hid G6
  clear hpe6 hpo6 G6 f6 M6 h5 hp6 hf6 h1 h2
  go_wp2_with (first | (go_at_call 119; first | ((with_reducible refine E1.mono ?_); rintro e w7 ⟨rfl, k7, rfl⟩) | ((with_reducible refine (E2 k7).mono ?_); rintro e w8 ⟨rfl, k8, rfl⟩)))
  go_end0
  have e1 : ((w6.drewN (k7 + k8)).setCell ⟨pe, 0, none⟩ (.bool true)).heap[pe]? = some (.cells #[.bool true] 4 (0, 0)) := one_setCell (w := w6.drewN (k7 + k8)) HPE6.out
  have e2 : ((w6.drewN (k7 + k8)).setCell ⟨pe, 0, none⟩ (.bool true)).heap[po]? = some (.cells #[.bool false] 4 (0, 0)) := by
    rw [Below.heap_setCell _ _ _ _ (fun e => hne e.symm)]; exact HPO6.out
  refine ⟨rfl, ?_, one_setCell e2, ?_⟩
  · rw [Below.heap_setCell _ _ _ _ hne]; exact e1
  · exact ((((HG6.out.drewN (k7 + k8)).mono (U := fun k => k = pe ∨ k = po) (fun _ _ h => h.elim)).setCell (fun _ => .inl rfl) _).setCell (fun _ => .inr rfl) _)
end Go.Proofs.Ytgommnmmifgbgaa
