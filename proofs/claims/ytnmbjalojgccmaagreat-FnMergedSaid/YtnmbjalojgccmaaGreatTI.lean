/-
  The row's last step where of the world behind the call 'Below' alone is known.
-/
import Derived.Below
import Derived.ChangeSame
import Derived.Test.YtnmbjalojgccmaaGreatRA
import Derived.Deep.SlicePairs
import Derived.ProofKit
import Derived.Test.YtnmbjalojgccmaaGreatQA
import Derived.Deep.AppendSrc
section
namespace Go.Proofs.YtnmbjalojgccmaaGreat
open Go.RowKit Go.WideShapes Go.ChangeShapes

section
variable {H : Type} {enc : TypeId × Value → H} {P : Program}
theorem post_of_below {f : Func} {s : ChangeSpec} {apart fresh handsOn again : Bool} {W W' : World} {args : Array Value} {v : Value} {ds gs : List (DataW H)} {before pa pv : List MemPlace}
    (hW : DataW.Whole enc P f.params.toList s.vars apart W args.toList ds gs before)
    (hres : ∀ (b : Nat) (sp : Nat → Bool) (hd : Bool), DataW.TrodAll enc P W' b sp hd f.resultTypes.toList (v.resultList f.resultTypes.size) (s.fn H (ds ++ gs)).results [])
    (hargs : ∀ sp : Nat → Bool, (∀ p ∈ before, sp p.block = true) → DataW.TrodAll enc P W' 0 sp true f.params.toList args.toList (s.fn H (ds ++ gs)).args pa)
    (hvars : ∀ sp : Nat → Bool, (∀ p ∈ before, sp p.block = true) → DataW.TrodVars enc P W' sp s.vars (s.fn H (ds ++ gs)).vars pv)
    (hps : before = pa ++ pv) (hb : Below W.heap.size W W')
    (hok : ∀ (j : Nat) (t : TypeId) (r : Value), f.resultTypes[j]? = some t → (v.resultList f.resultTypes.size)[j]? = some r → Value.okWide P W' .any 0 t r) :
    s.post enc P f apart fresh handsOn again W args v W' := by
  have hlt : ∀ p ∈ before, p.block < W.heap.size := fun p hp => hW.lt p hp
  have hold : ∀ p ∈ before, (fun b => decide (b < W.heap.size)) p.block = true := fun p hp => by simpa using hlt p hp
  refine ⟨ds, gs, before, [], pa, pv, hW, hres _ _ _, hargs _ hold, hvars _ hold, World.keptBut_mono (fun p hp => ⟨hp, ?_⟩) (hb.frame (· ∈ before)), fun _ => ?_⟩
  · rw [hps, List.mem_append] at hp
    exact Or.inr hp
  · obtain ⟨_, _, _, _, _, hz, hn⟩ := hW
    refine ⟨hok, _, _, ([] ++ pa) ++ pv, ⟨[] ++ pa, pv, trodAll_append (hargs _ (fun _ _ => rfl)) (hres _ _ _), hvars _ (fun _ _ => rfl), rfl, ?_, ?_⟩, ?_⟩
    · intro b off hp
      have hin : MemPlace.cell b off ∈ before := by rw [hps]; simpa using hp
      rw [hb.frozen (hlt _ hin)]
      exact hz b off hin
    · intro ha
      have := hn ha
      rw [hps] at this
      simpa using this
    · intro p hp _
      rw [hps]
      simpa using hp
end
end Go.Proofs.YtnmbjalojgccmaaGreat
end
/-
  A slice of bins and a slice of floats that come in: what lies there.
-/
section
namespace Go.Proofs.YtnmbjalojgccmaaGreat
open Go.RowKit Go.ChangeShapes Go.WideShapes

section
variable {H : Type} {enc : TypeId × Value → H} {P : Program} {w : World} {base : Nat} {spare : Nat → Bool} {held : Bool}
theorem trod_float {k : FloatKind} {t : TypeId} {fuel : Nat} {cs : List Value} {x : DataW H × List MemPlace} (ht : P.underlying t = some (.float k)) (h : DataW.trod enc P w base spare held fuel t cs = some x) : ∃ b, cs = [.float k b] ∧ (Lit.float k b).wf = true := by
  cases fuel with
  | zero => simp [DataW.trod] at h
  | succ n =>
    simp only [DataW.trod, ht] at h
    split at h <;> simp_all

theorem get_plain {g : Addr} {v : Value} (h : w.cell? (g.add 0) = some v) : ∃ b off, g = ⟨b, off, none⟩ := by
  obtain ⟨b, off, spot⟩ := g
  have : spot = none := by
    have h2 := World.cell?_spot h
    unfold Addr.add at h2
    split at h2 <;> simp_all
  exact ⟨b, off, by rw [this]⟩

theorem open_bins {t e : TypeId} {f0 f1 : Field} {ao : Option Addr} {len cap : Nat} {d : DataW H} {p : List MemPlace} (ht : P.underlying t = some (.slice e)) (he : P.underlying e = some (.struct #[f0, f1]))
    (ce : P.cellsOf e = 2) (o0 : f0.offset = 0) (o1 : f1.offset = 1) (c0 : P.cellsOf f0.type = 1) (c1 : P.cellsOf f1.type = 1) (k0 : P.underlying f0.type = some (.int .i64)) (k1 : P.underlying f1.type = some (.float .f64))
    (h : DataW.Trod enc P w base (fun _ => true) held t (.slice ao len cap) d p) :
    ∃ ps : List (Int × Nat), ps.length = len ∧ Lie2 w ao ps ∧ ∀ q ∈ ps, q.2 < 18446744073709551616 := by
  obtain ⟨n, hn⟩ := h
  rcases Deep.open_slice_pairs ht he ce o0 o1 c0 c1 hn with ⟨hcs, hx⟩ | ⟨a, len', cap', m, n', V0, V1, D0, D1, P0, P1, hcs, _, hl, _, hm, _, hc⟩
  · simp [Value.cells] at hcs
    exact ⟨[], by simp [hcs], .inl rfl, fun q hq => by cases hq⟩
  · simp [Value.cells] at hcs
    obtain ⟨rfl, rfl, rfl⟩ := hcs
    simp at hm
    subst hm
    have key : ∀ i, i < len → ∃ q : Int × Nat, V0 i = .int .i64 q.1 ∧ V1 i = .float .f64 q.2 ∧ q.2 < 18446744073709551616 := by
      intro i hi
      obtain ⟨_, _, h3, h4⟩ := hc i (by omega)
      obtain ⟨z, hz, _, _⟩ := DataW.trod_int k0 h3
      obtain ⟨b, hb, hw⟩ := trod_float k1 h4
      simp at hz hb
      exact ⟨(z, b), hz, hb, by simpa [Lit.wf] using hw⟩
    obtain ⟨q, hq⟩ := Deep.choose_lt key
    refine ⟨(List.range len).map q, by simp, ?_, ?_⟩
    · by_cases h0 : len = 0
      · exact .inl (by simp [h0])
      · right
        obtain ⟨b, off, rfl⟩ := get_plain (hc 0 (by omega)).1
        refine ⟨b, off, rfl, fun i hi => ?_⟩
        have hi' : i < len := by simpa using hi
        obtain ⟨h1, h2, _, _⟩ := hc i (by omega)
        rw [add_plain] at h1 h2
        rw [(hq i hi').1] at h1
        rw [(hq i hi').2.1] at h2
        simp only [List.getElem_map, List.getElem_range]
        exact ⟨h1, by rw [← h2]; rfl⟩
    · intro x hx
      obtain ⟨i, hi, rfl⟩ := List.mem_map.1 hx
      exact (hq i (List.mem_range.1 hi)).2.2

theorem open_floats {t e : TypeId} {ao : Option Addr} {len cap : Nat} {d : DataW H} {p : List MemPlace} (ht : P.underlying t = some (.slice e)) (he : P.underlying e = some (.float .f64))
    (ce : P.cellsOf e = 1) (h : DataW.Trod enc P w base (fun _ => true) held t (.slice ao len cap) d p) :
    ∃ rs : List Nat, rs.length = len ∧ LieF w ao rs ∧ ∀ q ∈ rs, q < 18446744073709551616 := by
  obtain ⟨n, hn⟩ := h
  rcases Deep.open_slice1 ht ce hn with ⟨hcs, hx⟩ | ⟨a, len', cap', m, n', V, D, Pl, hcs, _, hl, _, hm, _, hc⟩
  · simp [Value.cells] at hcs
    exact ⟨[], by simp [hcs], .inl rfl, fun q hq => by cases hq⟩
  · simp [Value.cells] at hcs
    obtain ⟨rfl, rfl, rfl⟩ := hcs
    simp at hm
    subst hm
    have key : ∀ i, i < len → ∃ q : Nat, V i = .float .f64 q ∧ q < 18446744073709551616 := by
      intro i hi
      obtain ⟨_, h4⟩ := hc i (by omega)
      obtain ⟨b, hb, hw⟩ := trod_float he h4
      simp at hb
      exact ⟨b, hb, by simpa [Lit.wf] using hw⟩
    obtain ⟨q, hq⟩ := Deep.choose_lt key
    refine ⟨(List.range len).map q, by simp, ?_, ?_⟩
    · by_cases h0 : len = 0
      · exact .inl (by simp [h0])
      · right
        obtain ⟨b, off, rfl⟩ := get_plain (hc 0 (by omega)).1
        refine ⟨b, off, rfl, fun i hi => ?_⟩
        have hi' : i < len := by simpa using hi
        obtain ⟨h1, _⟩ := hc i (by omega)
        rw [add_plain, (hq i hi').1] at h1
        simp only [List.getElem_map, List.getElem_range]
        exact h1
    · intro x hx
      obtain ⟨i, hi, rfl⟩ := List.mem_map.1 hx
      exact (hq i (List.mem_range.1 hi)).2
end
end Go.Proofs.YtnmbjalojgccmaaGreat
end
/-
  append(x[:len(x):len(x)], y...) of bins.
-/
section
namespace Go.Proofs.YtnmbjalojgccmaaGreat
open Go.RowKit

theorem cells_pc {w : World} {g off : Nat} {ps : List (Int × Nat)} (h : ∀ i, (h : i < ps.length) → w.cell? ⟨g, off + i * 2, none⟩ = some (.int .i64 ps[i].1) ∧ w.cell? ⟨g, off + i * 2 + 1, none⟩ = some (.float .f64 ps[i].2)) :
    ∀ j v, (pc ps)[j]? = some v → w.cell? ((⟨g, off, none⟩ : Addr).add j) = some v := by
  intro j v hj
  have hadd : (⟨g, off, none⟩ : Addr).add j = ⟨g, off + j, none⟩ := by unfold Addr.add; split <;> simp_all
  have hl : j < (pc ps).length := (List.getElem?_eq_some_iff.1 hj).1
  have hl2 := hl
  rw [pc_length] at hl2
  rw [hadd]
  obtain ⟨i, hi⟩ : ∃ i, i = j / 2 := ⟨_, rfl⟩
  have hip : i < ps.length := by omega
  obtain ⟨h0, h1⟩ := h i hip
  by_cases hj2 : j = i * 2
  · subst hj2
    rw [h0]
    rw [pc_get0 ps i hip] at hj
    exact hj
  · have hj3 : j = i * 2 + 1 := by omega
    subst hj3
    rw [show off + (i * 2 + 1) = off + i * 2 + 1 from by omega, h1]
    rw [pc_get1 ps i hip] at hj
    exact hj

theorem infoParts2 {P : Program} {e : TypeId} {z0 : Value} (h : (P.info? e).map (fun i => (i.zero, i.size, i.bytes)) = some (some z0, 2, 16)) : ∃ i, P.info? e = some i ∧ i.zero = some z0 ∧ i.size = 2 ∧ i.bytes = 16 := by
  cases hi : P.info? e with
  | none => rw [hi] at h; cases h
  | some i =>
    rw [hi] at h
    simp only [Option.map_some, Option.some.injEq, Prod.mk.injEq] at h
    exact ⟨i, rfl, h.1, h.2.1, h.2.2⟩

theorem run_append_bins {P : Program} (w : World) (tS ty e : TypeId) (z0 : Value) (ht : P.underlying tS = some (.slice e)) (hinfo : (P.info? e).map (fun i => (i.zero, i.size, i.bytes)) = some (some z0, 2, 16))
    (ao ap : Option Addr) (c : Nat) (xs ys : List (Int × Nat)) (hx : Lie2 w ao xs) (hy : Lie2 w ap ys) (hs : xs.length + ys.length < 1000000000) :
    ∃ a' c' w', (Builtin.append_ #[tS, tS] ty #[.slice ao xs.length xs.length, .slice ap ys.length c]).run P w = .ok (.slice a' (xs ++ ys).length c') w' ∧ Lie2 w' a' (xs ++ ys) ∧ Below w.heap.size w w' := by
  obtain ⟨i0, hi, hz0, hz1, hz2⟩ := infoParts2 hinfo
  by_cases h0 : ys = []
  · subst h0
    refine ⟨ao, xs.length, w, ?_, by rw [List.append_nil]; exact hx, Below.refl _ w⟩
    have hf : (Builtin.firstCells i0.size 0 (.slice ap 0 c)).run P w = .ok #[] w := by
      cases ap <;> simp [Builtin.firstCells, loadCells, loadCellsFrom]
    cases ao <;> simp [Builtin.append_, run_underlying ht, sizeOf, typeInfo, hi, Builtin.lenOf, hf, storeCells]
  · rcases hy with hy | ⟨g2, off2, rfl, hy⟩
    · exact absurd hy h0
    have hpos : 0 < ys.length := List.length_pos_iff.2 h0
    have hsrc : Src P i0.size tS (.slice (some ⟨g2, off2, none⟩) ys.length c) ys.length (pc ys) w := Src.ofSlice w ht ⟨g2, off2, none⟩ ys.length c (pc ys) (by rw [pc_length, hz1]) (cells_pc hy) (pc_one ys)
    have hold : (Builtin.firstCells i0.size xs.length (.slice ao xs.length xs.length)).run P w.drew = .ok (pc xs).toArray w.drew := by
      rcases hx with hx | ⟨g, off, rfl, hx⟩
      · subst hx
        cases ao <;> simp [Builtin.firstCells, loadCells, loadCellsFrom, pc]
      · exact run_firstCells_some w.drew i0.size xs.length ⟨g, off, none⟩ xs.length xs.length (pc xs) (by rw [pc_length, hz1]) (cells_pc hx)
    have hr := run_append_grow_src (P := P) w tS tS ty e i0 z0 ht hi hz0 ao xs.length xs.length (pc xs) hold (.slice (some ⟨g2, off2, none⟩) ys.length c) ys.length (pc ys) hsrc (by omega) (by omega) (growslice_fits (by omega) (by rw [hz2]; omega))
    refine ⟨_, _, _, by rw [List.length_append]; exact hr, .inr ⟨w.heap.size, 0, rfl, fun i hlt => ?_⟩, ((Below.refl _ w).drew).alloc (Nat.le_refl _) _⟩
    rw [← pc_append]
    have hget : ∀ k v, (pc (xs ++ ys))[k]? = some v → (w.drew.alloc (.cells ((pc (xs ++ ys)).toArray ++ Builtin.zeroCells z0.cells (grownCap w (xs.length + ys.length) xs.length e - (xs.length + ys.length))) e)).cell? ⟨w.heap.size, k, none⟩ = some v := fun k v hk => by
      rw [cell_of_row _ w.heap.size k _ _ _ (heap_alloc_new w.drew _)]
      have hkl : k < (pc (xs ++ ys)).length := (List.getElem?_eq_some_iff.1 hk).1
      rw [Array.getElem?_append_left (by simpa using hkl)]
      simpa using hk
    rw [Nat.zero_add]
    exact ⟨hget _ _ (pc_get0 _ i hlt), hget _ _ (pc_get1 _ i hlt)⟩

theorem wp_append_bins {P : Program} {o : Oper} {a : Act} {K : Act → World → Prop} {Q : Exit → Act → World → Prop} (w : World) (s x : Operand) (tS e : TypeId) (z0 : Value)
    (ho : o.op = .call { callee := .builtin .append, args := #[s, x], argTypes := #[tS, tS] }) (ht : P.underlying tS = some (.slice e)) (hinfo : (P.info? e).map (fun i => (i.zero, i.size, i.bytes)) = some (some z0, 2, 16))
    (ao ap : Option Addr) (n m c : Nat) (xs ys : List (Int × Nat)) (hn : n = xs.length) (hm : m = ys.length) (hsv : a.eval s = .slice ao n n) (hxv : a.eval x = .slice ap m c) (hx : Lie2 w ao xs) (hy : Lie2 w ap ys) (hs : xs.length + ys.length < 1000000000)
    (h : ∀ a' c' w', Lie2 w' a' (xs ++ ys) → Below w.heap.size w w' → K (a.put o.dst (.slice a' (xs ++ ys).length c')) w') : o.wp P a w K Q := by
  subst hn hm
  obtain ⟨a', c', w', hr, h2, h3⟩ := run_append_bins (P := P) w tS o.type e z0 ht hinfo ao ap c xs ys hx hy hs
  unfold Oper.wp execOp
  simp only [ho, resolve, invoke, builtin, Sem.run_bind, Sem.run_pure, Result.andThen_ok, List.map_toArray, List.map_cons, List.map_nil, hsv, hxv, hr]
  exact h a' c' w' h2 h3
end Go.Proofs.YtnmbjalojgccmaaGreat
end
/-
  append(a[:len(a):len(a)], b...): a's bytes, then b's.
-/
section
namespace Go.Proofs.YtnmbjalojgccmaaGreat
open Go.RowKit

/-- The slice (ao, of as many bytes as ys has) reads as ys in w. -/
def Lies (w : World) (ao : Option Addr) (ys : List Nat) : Prop :=
  ys = [] ∨ ∃ g off, ao = some ⟨g, off, none⟩ ∧ ∀ i, (h : i < ys.length) → w.cell? ⟨g, off + i, none⟩ = some (.int .u8 (ys[i] : Int))

theorem Lies.below {B : Nat} {w w' : World} {ao : Option Addr} {ys : List Nat} (h : Lies w ao ys) (hb : Below B w w') (hB : w.heap.size ≤ B) : Lies w' ao ys := by
  rcases h with h | ⟨g, off, h1, h2⟩
  · exact .inl h
  · refine .inr ⟨g, off, h1, fun i hi => ?_⟩
    have := h2 i hi
    exact (hb.cell (p := ⟨g, off + i, none⟩) (Nat.lt_of_lt_of_le (World.block_lt_of_cell? w _ this) hB)).trans this

section
variable {P : Program}
theorem run_append_exact (w : World) (tS ty tE : TypeId) (ht : P.underlying tS = some (.slice tE)) (hinfo : (P.info? tE).map (fun i => (i.zero, i.size, i.bytes)) = some (some (.int .u8 0), 1, 1))
    (g c : Nat) (xs ys : List Nat) (ao : Option Addr) (hx : ∀ i, (h : i < xs.length) → w.cell? ⟨g, 0 + i, none⟩ = some (.int .u8 (xs[i] : Int))) (hy : Lies w ao ys) (hs : xs.length + ys.length < 1000000000) :
    ∃ g' c' w', (Builtin.append_ #[tS, tS] ty #[.slice (some ⟨g, 0, none⟩) xs.length xs.length, .slice ao ys.length c]).run P w = .ok (.slice (some ⟨g', 0, none⟩) (xs.length + ys.length) c') w' ∧
      (∀ i, (h : i < (xs ++ ys).length) → w'.cell? ⟨g', 0 + i, none⟩ = some (.int .u8 ((xs ++ ys)[i] : Int))) ∧ Fr (fun _ => False) w w' := by
  obtain ⟨i0, hi, hz0, hz1, hz2⟩ := info_parts hinfo
  by_cases h0 : ys = []
  · subst h0
    refine ⟨g, xs.length, w, ?_, ?_, Fr.refl _ w⟩
    · have hf : (Builtin.firstCells i0.size 0 (.slice ao 0 c)).run P w = .ok #[] w := by
        cases ao <;> simp [Builtin.firstCells, loadCells, loadCellsFrom]
      simp [Builtin.append_, run_underlying ht, sizeOf, typeInfo, hi, Builtin.lenOf, hf, storeCells]
    · simpa using hx
  · rcases hy with hy | ⟨g2, off2, rfl, hy⟩
    · exact absurd hy h0
    · have hpos : 0 < ys.length := List.length_pos_iff.2 h0
      have hxs : ∀ j v, (cu8 xs)[j]? = some v → w.cell? ((⟨g, 0, none⟩ : Addr).add j) = some v := by
        intro j v hj
        have hjl : j < xs.length := by
          rcases Nat.lt_or_ge j xs.length with h | h
          · exact h
          · simp [cu8, List.getElem?_eq_none h] at hj
        have hadd : (⟨g, 0, none⟩ : Addr).add j = ⟨g, 0 + j, none⟩ := by unfold Addr.add; split <;> simp_all
        rw [hadd, hx j hjl]
        simpa [cu8, List.getElem?_eq_getElem hjl] using hj
      have hys : ∀ j v, (cu8 ys)[j]? = some v → w.cell? ((⟨g2, off2, none⟩ : Addr).add j) = some v := by
        intro j v hj
        have hjl : j < ys.length := by
          rcases Nat.lt_or_ge j ys.length with h | h
          · exact h
          · simp [cu8, List.getElem?_eq_none h] at hj
        have hadd : (⟨g2, off2, none⟩ : Addr).add j = ⟨g2, off2 + j, none⟩ := by unfold Addr.add; split <;> simp_all
        rw [hadd, hy j hjl]
        simpa [cu8, List.getElem?_eq_getElem hjl] using hj
      have hr := run_append_grow (P := P) w tS ty tE i0 (.int .u8 0) ht hi hz0 ⟨g, 0, none⟩ xs.length xs.length (cu8 xs) (by simp [cu8, hz1]) hxs ⟨g2, off2, none⟩ ys.length c (cu8 ys) (by simp [cu8, hz1]) hys (by omega) (by omega) (growslice_fits (by omega) (by rw [hz2]; omega))
      refine ⟨_, _, _, hr, ?_, ((Fr.refl _ w).drew).alloc _⟩
      intro i hlt
      have hc := cell_of_row (w.drew.alloc (.cells ((cu8 xs).toArray ++ (cu8 ys).toArray ++ Builtin.zeroCells (Value.int .u8 0).cells (grownCap w (xs.length + ys.length) xs.length tE - (xs.length + ys.length))) tE)) w.heap.size (0 + i) _ _ _ (heap_alloc_new w.drew _)
      rw [hc]
      rw [Nat.zero_add, Array.getElem?_append_left (by simp [cu8] at hlt ⊢; omega)]
      have e : (cu8 xs).toArray ++ (cu8 ys).toArray = (cu8 (xs ++ ys)).toArray := by rw [cu8_append]; simp
      rw [e]
      have hl2 : (cu8 (xs ++ ys))[i]? = some (.int .u8 ((xs ++ ys)[i] : Int)) := by
        show (List.map _ (xs ++ ys))[i]? = _
        rw [List.getElem?_map, List.getElem?_eq_getElem hlt]
        rfl
      simpa using hl2

theorem wp_append_exact {o : Oper} {a : Act} {K : Act → World → Prop} {Q : Exit → Act → World → Prop} (w : World) (s x : Operand) (tS tE : TypeId)
    (ho : o.op = .call { callee := .builtin .append, args := #[s, x], argTypes := #[tS, tS] }) (ht : P.underlying tS = some (.slice tE)) (hinfo : (P.info? tE).map (fun i => (i.zero, i.size, i.bytes)) = some (some (.int .u8 0), 1, 1))
    (g c : Nat) (xs ys : List Nat) (ao : Option Addr) (hsv : a.eval s = .slice (some ⟨g, 0, none⟩) xs.length xs.length) (hxv : a.eval x = .slice ao ys.length c)
    (hx : ∀ i, (h : i < xs.length) → w.cell? ⟨g, 0 + i, none⟩ = some (.int .u8 (xs[i] : Int))) (hy : Lies w ao ys) (hs : xs.length + ys.length < 1000000000)
    (h : ∀ g' c' w', (∀ i, (h : i < (xs ++ ys).length) → w'.cell? ⟨g', 0 + i, none⟩ = some (.int .u8 ((xs ++ ys)[i] : Int))) → Fr (fun _ => False) w w' → K (a.put o.dst (.slice (some ⟨g', 0, none⟩) (xs.length + ys.length) c')) w') : o.wp P a w K Q := by
  obtain ⟨g', c', w', hr, h2, h3⟩ := run_append_exact (P := P) w tS o.type tE ht hinfo g c xs ys ao hx hy hs
  unfold Oper.wp execOp
  simp only [ho, resolve, invoke, builtin, Sem.run_bind, Sem.run_pure, Result.andThen_ok, List.map_toArray, List.map_cons, List.map_nil, hsv, hxv, hr]
  exact h g' c' w' h2 h3

theorem wpList_append_exact {ops : Array Oper} {rest : List Oper} {o : Oper} {a : Act} {Q : Exit → Act → World → Prop} (w : World) (hgd : o.guard = none) (s x : Operand) (tS tE : TypeId)
    (ho : o.op = .call { callee := .builtin .append, args := #[s, x], argTypes := #[tS, tS] }) (ht : P.underlying tS = some (.slice tE)) (hinfo : (P.info? tE).map (fun i => (i.zero, i.size, i.bytes)) = some (some (.int .u8 0), 1, 1))
    (g c : Nat) (xs ys : List Nat) (ao : Option Addr) (hsv : a.eval s = .slice (some ⟨g, 0, none⟩) xs.length xs.length) (hxv : a.eval x = .slice ao ys.length c)
    (hx : ∀ i, (h : i < xs.length) → w.cell? ⟨g, 0 + i, none⟩ = some (.int .u8 (xs[i] : Int))) (hy : Lies w ao ys) (hs : xs.length + ys.length < 1000000000)
    (h : ∀ g' c' w', (∀ i, (h : i < (xs ++ ys).length) → w'.cell? ⟨g', 0 + i, none⟩ = some (.int .u8 ((xs ++ ys)[i] : Int))) → Fr (fun _ => False) w w' → wpList P ops Q rest (a.put o.dst (.slice (some ⟨g', 0, none⟩) (xs.length + ys.length) c')) w') : wpList P ops Q (o :: rest) a w :=
  wpList_plain hgd fun _ hK => wp_append_exact w s x tS tE ho ht hinfo g c xs ys ao hsv hxv hx hy hs fun g' c' w' h2 h3 => hK _ _ (h g' c' w' h2 h3)
end

/-- s[:h:m] within the capacity. -/
theorem run_slice_full {P : Program} (t e : TypeId) (ht : P.underlying t = some (.slice e)) (ao : Option Addr) (n c m : Nat) (h : Int) (h0 : h = (m : Int)) (h1 : m ≤ c) {z : Nat} (hz : ∀ w, (sizeOf e).run P w = .ok z w) (w : World) :
    (Instr.slice t (.slice ao n c) none (some (.int .i64 h)) (some (.int .i64 h))).run P w = .ok (.slice ao m m) w := by
  subst h0
  have hh : (m : Int) ≤ (c : Int) := by omega
  simp [Instr.slice, run_underlying ht, Instr.sliceBounds, go_sem, hh, hz]
end Go.Proofs.YtnmbjalojgccmaaGreat
end
