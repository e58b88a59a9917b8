/-
  append(a[:len(a):len(a)], b...): a's bytes, then b's.
-/
import Derived.Test.YtgjlbodclfhlfaaDoorFrame
namespace Go.Proofs.YtgjlbodclfhlfaaDoor
open Go.RowKit

/-- The slice (ao, of as many bytes as ys has) reads as ys in w. -/
def Lies (w : World) (ao : Option Addr) (ys : List Nat) : Prop :=
  ys = [] ∨ ∃ g off, ao = some ⟨g, off, none⟩ ∧ ∀ i, (h : i < ys.length) → w.cell? ⟨g, off + i, none⟩ = some (.int .u8 (ys[i] : Int))

theorem Lies.below {B : Nat} {w w' : World} {ao : Option Addr} {ys : List Nat} (h : Lies w ao ys) (hb : Below B w w') (hB : w.heap.size ≤ B) : Lies w' ao ys := by
  rcases h with h | ⟨g, off, h1, h2⟩
  · exact .inl h
  · refine .inr ⟨g, off, h1, fun i hi => ?_⟩
    have := h2 i hi
    exact (hb.cell (p := ⟨g, off + i, none⟩) (Nat.lt_of_lt_of_le (World.block_lt_of_cell? w _ this) hB)).trans this

section
variable {P : Program}
theorem run_append_exact (w : World) (tS ty tE : TypeId) (ht : P.underlying tS = some (.slice tE)) (hinfo : (P.info? tE).map (fun i => (i.zero, i.size, i.bytes)) = some (some (.int .u8 0), 1, 1))
    (g c : Nat) (xs ys : List Nat) (ao : Option Addr) (hx : ∀ i, (h : i < xs.length) → w.cell? ⟨g, 0 + i, none⟩ = some (.int .u8 (xs[i] : Int))) (hy : Lies w ao ys) (hs : xs.length + ys.length < 1000000000) :
    ∃ g' c' w', (Builtin.append_ #[tS, tS] ty #[.slice (some ⟨g, 0, none⟩) xs.length xs.length, .slice ao ys.length c]).run P w = .ok (.slice (some ⟨g', 0, none⟩) (xs.length + ys.length) c') w' ∧
      (∀ i, (h : i < (xs ++ ys).length) → w'.cell? ⟨g', 0 + i, none⟩ = some (.int .u8 ((xs ++ ys)[i] : Int))) ∧ Fr (fun _ => False) w w' := by
  obtain ⟨i0, hi, hz0, hz1, hz2⟩ := info_parts hinfo
  by_cases h0 : ys = []
  · subst h0
    refine ⟨g, xs.length, w, ?_, ?_, Fr.refl _ w⟩
    · have hf : (Builtin.firstCells i0.size 0 (.slice ao 0 c)).run P w = .ok #[] w := by
        cases ao <;> simp [Builtin.firstCells, loadCells, loadCellsFrom]
      simp [Builtin.append_, run_underlying ht, sizeOf, typeInfo, hi, Builtin.lenOf, hf, storeCells]
    · simpa using hx
  · rcases hy with hy | ⟨g2, off2, rfl, hy⟩
    · exact absurd hy h0
    · have hpos : 0 < ys.length := List.length_pos_iff.2 h0
      have hxs : ∀ j v, (cu8 xs)[j]? = some v → w.cell? ((⟨g, 0, none⟩ : Addr).add j) = some v := by
        intro j v hj
        have hjl : j < xs.length := by
          rcases Nat.lt_or_ge j xs.length with h | h
          · exact h
          · simp [cu8, List.getElem?_eq_none h] at hj
        have hadd : (⟨g, 0, none⟩ : Addr).add j = ⟨g, 0 + j, none⟩ := by unfold Addr.add; split <;> simp_all
        rw [hadd, hx j hjl]
        simpa [cu8, List.getElem?_eq_getElem hjl] using hj
      have hys : ∀ j v, (cu8 ys)[j]? = some v → w.cell? ((⟨g2, off2, none⟩ : Addr).add j) = some v := by
        intro j v hj
        have hjl : j < ys.length := by
          rcases Nat.lt_or_ge j ys.length with h | h
          · exact h
          · simp [cu8, List.getElem?_eq_none h] at hj
        have hadd : (⟨g2, off2, none⟩ : Addr).add j = ⟨g2, off2 + j, none⟩ := by unfold Addr.add; split <;> simp_all
        rw [hadd, hy j hjl]
        simpa [cu8, List.getElem?_eq_getElem hjl] using hj
      have hr := run_append_grow (P := P) w tS ty tE i0 (.int .u8 0) ht hi hz0 ⟨g, 0, none⟩ xs.length xs.length (cu8 xs) (by simp [cu8, hz1]) hxs ⟨g2, off2, none⟩ ys.length c (cu8 ys) (by simp [cu8, hz1]) hys (by omega) (by omega) (growslice_fits (by omega) (by rw [hz2]; omega))
      refine ⟨_, _, _, hr, ?_, ((Fr.refl _ w).drew).alloc _⟩
      intro i hlt
      have hc := cell_of_row (w.drew.alloc (.cells ((cu8 xs).toArray ++ (cu8 ys).toArray ++ Builtin.zeroCells (Value.int .u8 0).cells (grownCap w (xs.length + ys.length) xs.length tE - (xs.length + ys.length))) tE)) w.heap.size (0 + i) _ _ _ (heap_alloc_new w.drew _)
      rw [hc]
      rw [Nat.zero_add, Array.getElem?_append_left (by simp [cu8] at hlt ⊢; omega)]
      have e : (cu8 xs).toArray ++ (cu8 ys).toArray = (cu8 (xs ++ ys)).toArray := by rw [cu8_append]; simp
      rw [e]
      have hl2 : (cu8 (xs ++ ys))[i]? = some (.int .u8 ((xs ++ ys)[i] : Int)) := by
        show (List.map _ (xs ++ ys))[i]? = _
        rw [List.getElem?_map, List.getElem?_eq_getElem hlt]
        rfl
      simpa using hl2

theorem wp_append_exact {o : Oper} {a : Act} {K : Act → World → Prop} {Q : Exit → Act → World → Prop} (w : World) (s x : Operand) (tS tE : TypeId)
    (ho : o.op = .call { callee := .builtin .append, args := #[s, x], argTypes := #[tS, tS] }) (ht : P.underlying tS = some (.slice tE)) (hinfo : (P.info? tE).map (fun i => (i.zero, i.size, i.bytes)) = some (some (.int .u8 0), 1, 1))
    (g c : Nat) (xs ys : List Nat) (ao : Option Addr) (hsv : a.eval s = .slice (some ⟨g, 0, none⟩) xs.length xs.length) (hxv : a.eval x = .slice ao ys.length c)
    (hx : ∀ i, (h : i < xs.length) → w.cell? ⟨g, 0 + i, none⟩ = some (.int .u8 (xs[i] : Int))) (hy : Lies w ao ys) (hs : xs.length + ys.length < 1000000000)
    (h : ∀ g' c' w', (∀ i, (h : i < (xs ++ ys).length) → w'.cell? ⟨g', 0 + i, none⟩ = some (.int .u8 ((xs ++ ys)[i] : Int))) → Fr (fun _ => False) w w' → K (a.put o.dst (.slice (some ⟨g', 0, none⟩) (xs.length + ys.length) c')) w') : o.wp P a w K Q := by
  obtain ⟨g', c', w', hr, h2, h3⟩ := run_append_exact (P := P) w tS o.type tE ht hinfo g c xs ys ao hx hy hs
  unfold Oper.wp execOp
  simp only [ho, resolve, invoke, builtin, Sem.run_bind, Sem.run_pure, Result.andThen_ok, List.map_toArray, List.map_cons, List.map_nil, hsv, hxv, hr]
  exact h g' c' w' h2 h3

theorem wpList_append_exact {ops : Array Oper} {rest : List Oper} {o : Oper} {a : Act} {Q : Exit → Act → World → Prop} (w : World) (hgd : o.guard = none) (s x : Operand) (tS tE : TypeId)
    (ho : o.op = .call { callee := .builtin .append, args := #[s, x], argTypes := #[tS, tS] }) (ht : P.underlying tS = some (.slice tE)) (hinfo : (P.info? tE).map (fun i => (i.zero, i.size, i.bytes)) = some (some (.int .u8 0), 1, 1))
    (g c : Nat) (xs ys : List Nat) (ao : Option Addr) (hsv : a.eval s = .slice (some ⟨g, 0, none⟩) xs.length xs.length) (hxv : a.eval x = .slice ao ys.length c)
    (hx : ∀ i, (h : i < xs.length) → w.cell? ⟨g, 0 + i, none⟩ = some (.int .u8 (xs[i] : Int))) (hy : Lies w ao ys) (hs : xs.length + ys.length < 1000000000)
    (h : ∀ g' c' w', (∀ i, (h : i < (xs ++ ys).length) → w'.cell? ⟨g', 0 + i, none⟩ = some (.int .u8 ((xs ++ ys)[i] : Int))) → Fr (fun _ => False) w w' → wpList P ops Q rest (a.put o.dst (.slice (some ⟨g', 0, none⟩) (xs.length + ys.length) c')) w') : wpList P ops Q (o :: rest) a w :=
  wpList_plain hgd fun _ hK => wp_append_exact w s x tS tE ho ht hinfo g c xs ys ao hsv hxv hx hy hs fun g' c' w' h2 h3 => hK _ _ (h g' c' w' h2 h3)
end

/-- s[:h:m] within the capacity. -/
theorem run_slice_full {P : Program} (t e : TypeId) (ht : P.underlying t = some (.slice e)) (ao : Option Addr) (n c m : Nat) (h : Int) (h0 : h = (m : Int)) (h1 : m ≤ c) {z : Nat} (hz : ∀ w, (sizeOf e).run P w = .ok z w) (w : World) :
    (Instr.slice t (.slice ao n c) none (some (.int .i64 h)) (some (.int .i64 h))).run P w = .ok (.slice ao m m) w := by
  subst h0
  have hh : (m : Int) ≤ (c : Int) := by omega
  simp [Instr.slice, run_underlying ht, Instr.sliceBounds, go_sem, hh, hz]
end Go.Proofs.YtgjlbodclfhlfaaDoor
