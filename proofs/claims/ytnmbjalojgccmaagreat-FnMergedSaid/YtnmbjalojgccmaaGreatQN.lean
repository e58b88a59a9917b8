/-
  Bins summed, plainly: each index once, in growing order. No program in sight.
-/
import Derived.Test.YtnmbjalojgccmaaGreatQC
import Derived.Deep.RegionLaw
import Derived.RegionTactic
section
namespace Go.Proofs.YtnmbjalojgccmaaGreat

abbrev Bins := List (Int × Nat)

/-- One more bin among ordered ones. -/
def insB (i : Int) (n : Nat) : Bins → Bins
  | [] => [(i, n)]
  | p :: t => if i < p.1 then (i, n) :: p :: t else if i = p.1 then (p.1, p.2 + n) :: t else p :: insB i n t

def summed (xs : Bins) : Bins := xs.foldl (fun l p => insB p.1 p.2 l) []

theorem summed_nil : summed [] = [] := rfl
theorem summed_snoc (xs : Bins) (p : Int × Nat) : summed (xs ++ [p]) = insB p.1 p.2 (summed xs) := by simp [summed, List.foldl_append]

def Asc (l : Bins) : Prop := l.Pairwise fun p q => p.1 < q.1

theorem asc_cons {p : Int × Nat} {t : Bins} : Asc (p :: t) ↔ (∀ q ∈ t, p.1 < q.1) ∧ Asc t := List.pairwise_cons

theorem insB_mem {i : Int} {n : Nat} : ∀ {l : Bins} {q : Int × Nat}, q ∈ insB i n l → q.1 = i ∨ q ∈ l
  | [], q, h => by simp [insB] at h; exact .inl (by rw [h])
  | p :: t, q, h => by
    unfold insB at h
    split at h
    · rcases List.mem_cons.1 h with h | h
      · exact .inl (by rw [h])
      · exact .inr h
    · split at h
      · rename_i hi
        rcases List.mem_cons.1 h with h | h
        · exact .inl (by rw [h, hi])
        · exact .inr (List.mem_cons_of_mem _ h)
      · rcases List.mem_cons.1 h with h | h
        · exact .inr (by rw [h]; exact List.mem_cons_self)
        · rcases insB_mem h with h | h
          · exact .inl h
          · exact .inr (List.mem_cons_of_mem _ h)

theorem insB_asc {i : Int} {n : Nat} : ∀ {l : Bins}, Asc l → Asc (insB i n l)
  | [], _ => by simp [insB, Asc]
  | p :: t, h => by
    obtain ⟨h1, h2⟩ := asc_cons.1 h
    unfold insB
    split
    · rename_i hi
      refine asc_cons.2 ⟨fun q hq => ?_, h⟩
      rcases List.mem_cons.1 hq with rfl | hq
      · exact hi
      · exact Int.lt_trans hi (h1 q hq)
    · split
      · exact asc_cons.2 ⟨h1, h2⟩
      · refine asc_cons.2 ⟨fun q hq => ?_, insB_asc h2⟩
        rcases insB_mem hq with hq | hq
        · rw [hq]; omega
        · exact h1 q hq

theorem summed_asc (xs : Bins) : Asc (summed xs) := by
  unfold summed
  have : ∀ (xs l : Bins), Asc l → Asc (xs.foldl (fun l p => insB p.1 p.2 l) l) := by
    intro xs
    induction xs with
    | nil => intro l h; exact h
    | cons p t ih => intro l h; exact ih _ (insB_asc h)
  exact this xs [] List.Pairwise.nil

theorem insB_length (i : Int) (n : Nat) : ∀ l : Bins, (insB i n l).length ≤ l.length + 1
  | [] => by simp [insB]
  | p :: t => by
    unfold insB
    split
    · simp
    · split
      · simp
      · have := insB_length i n t; simp; omega

theorem insB_tot (i : Int) (n : Nat) : ∀ l : Bins, tot (insB i n l) = tot l + n
  | [] => by simp [insB, tot]
  | p :: t => by
    unfold insB
    split
    · simp [tot]; omega
    · split
      · simp [tot]; omega
      · simp [tot, insB_tot i n t]; omega

theorem summed_tot (xs : Bins) : tot (summed xs) = tot xs := by
  have : ∀ (xs l : Bins), tot (xs.foldl (fun l p => insB p.1 p.2 l) l) = tot l + tot xs := by
    intro xs
    induction xs with
    | nil => intro l; simp [tot]
    | cons p t ih => intro l; simp only [List.foldl_cons]; rw [ih, insB_tot, tot]; omega
  unfold summed; rw [this]; simp [tot]

theorem summed_length (xs : Bins) : (summed xs).length ≤ xs.length := by
  have : ∀ (xs l : Bins), (xs.foldl (fun l p => insB p.1 p.2 l) l).length ≤ l.length + xs.length := by
    intro xs
    induction xs with
    | nil => intro l; simp
    | cons p t ih => intro l; simp only [List.foldl_cons]; have := ih (insB p.1 p.2 l); have := insB_length p.1 p.2 l; simp; omega
  have := this xs []
  simpa [summed] using this

/-- Where all ahead of place m are less and all from it on are greater: a new bin there. -/
theorem insB_new (i : Int) (n : Nat) : ∀ (l : Bins) (m : Nat), m ≤ l.length → (∀ j, (h : j < l.length) → j < m → l[j].1 < i) → (∀ j, (h : j < l.length) → m ≤ j → i < l[j].1) → insB i n l = l.take m ++ (i, n) :: l.drop m
  | [], m, hm, _, _ => by simp [insB]
  | p :: t, 0, _, _, h2 => by
    have := h2 0 (by simp) (by omega)
    simp at this
    simp [insB, this]
  | p :: t, m + 1, hm, h1, h2 => by
    have h := h1 0 (by simp) (by omega)
    simp at h
    have e1 : ¬ i < p.1 := by omega
    have e2 : ¬ i = p.1 := by omega
    unfold insB
    rw [if_neg e1, if_neg e2, insB_new i n t m (by simpa using hm) (fun j hj hjm => by have := h1 (j + 1) (by simpa using hj) (by omega); simpa using this) (fun j hj hjm => by have := h2 (j + 1) (by simpa using hj) (by omega); simpa using this)]
    simp

/-- Where the bin at place m has the index: its count grows. -/
theorem insB_set (i : Int) (n c : Nat) : ∀ (l : Bins) (m : Nat) (hm : m < l.length), (∀ j, (h : j < l.length) → j < m → l[j].1 < i) → l[m] = (i, c) → insB i n l = l.set m (i, c + n)
  | [], m, hm, _, _ => by simp at hm
  | p :: t, 0, _, _, h2 => by
    simp at h2
    subst h2
    simp [insB]
  | p :: t, m + 1, hm, h1, h2 => by
    have h := h1 0 (by simp) (by omega)
    simp at h
    have e1 : ¬ i < p.1 := by omega
    have e2 : ¬ i = p.1 := by omega
    unfold insB
    rw [if_neg e1, if_neg e2, insB_set i n c t m (by simpa using hm) (fun j hj hjm => by have := h1 (j + 1) (by simpa using hj) (by omega); simpa using this) (by simpa using h2)]
    simp

theorem asc_lt {l : Bins} (h : Asc l) {j k : Nat} (hj : j < l.length) (hk : k < l.length) (hjk : j < k) : l[j].1 < l[k].1 := List.pairwise_iff_getElem.1 h j k hj hk hjk
end Go.Proofs.YtnmbjalojgccmaaGreat
end
/-
  spec.Summed walked.
-/
section
namespace Go.Proofs.YtnmbjalojgccmaaGreat
open Go.RowKit

theorem owns_setN {w : World} {e : TypeId} {g n cap size : Nat} {xs : List Value} (h : w.ownsRow 0 e size (.slice (some ⟨g, 0, none⟩) n cap) n xs) (i : Nat) (u : Value) :
    (w.setCell ⟨g, i, none⟩ u).ownsRow 0 e size (.slice (some ⟨g, 0, none⟩) n cap) n (xs.set i u) := by
  obtain ⟨h1, h2⟩ := h
  rcases h2 with ⟨h2, _⟩ | ⟨g', cap', cur, hv, hb, hg, hn, hm, hs, ht⟩
  · cases h2
  · cases hv
    refine ⟨by simpa using h1, .inr ⟨g, cap, cur.setIfInBounds i u, rfl, hb, heap_setCell_same w g i cur e u hg, hn, hm, by simpa using hs, ?_⟩⟩
    rw [Array.toList_setIfInBounds, List.take_set, ht]

theorem pc_set (ps : List (Int × Nat)) (x : Int) (b : Nat) : ∀ m, (h : m < ps.length) → ps[m].1 = x → pc (ps.set m (x, b)) = (pc ps).set (m * 2 + 1) (.float .f64 b) := by
  induction ps with
  | nil => intro m h; cases h
  | cons p t ih =>
    intro m h hx
    cases m with
    | zero => simp at hx; simp [pc, hx]
    | succ m =>
      rw [show (m + 1) * 2 + 1 = m * 2 + 1 + 1 + 1 from by omega]
      simp [pc, ih m (by simpa using h) (by simpa using hx)]

theorem owns2_some {e : TypeId} {w : World} {ao : Option Addr} {n' c n : Nat} {ps : List (Int × Nat)} (h : w.ownsRow 0 e 2 (.slice ao n' c) n (pc ps)) (h0 : 0 < ps.length) :
    ∃ g, ao = some ⟨g, 0, none⟩ ∧ (∀ i, (h : i < ps.length) → w.cell? ⟨g, i * 2, none⟩ = some (.int .i64 ps[i].1) ∧ w.cell? ⟨g, i * 2 + 1, none⟩ = some (.float .f64 ps[i].2)) ∧ ∀ j, w.frozen? ⟨g, j, none⟩ = false := by
  obtain ⟨_, _, _, hl⟩ := lie2_of_owns h
  rcases h.2 with ⟨h1, h2⟩ | ⟨g, cap, cur, h1, _, hh, _⟩
  · have := h.1; rw [pc_length] at this; omega
  · cases h1
    refine ⟨g, rfl, ?_, fun j => frozen_of_row w g j cur _ hh⟩
    rcases hl with h | ⟨g', off, h, hc⟩
    · rw [h] at h0; simp at h0
    · cases h; intro i hi; have := hc i hi; rwa [Nat.zero_add] at this

theorem get_le_tot : ∀ (l : Bins) (m : Nat) (h : m < l.length), l[m].2 ≤ tot l
  | p :: t, 0, _ => by simp [tot]
  | p :: t, m + 1, h => by have := get_le_tot t m (by simpa using h); simp [tot]; omega

def SumRel (xs : Bins) (w wr : World) (v i : Value) : Prop :=
  ∃ k ar c, k ≤ xs.length ∧ i = .int .i64 (k : Int) ∧ v = .slice ar (summed (xs.take k)).length c ∧ Own2 44 w wr (.slice ar (summed (xs.take k)).length c) (fb (summed (xs.take k)))

theorem fb_set (l : Bins) (m : Nat) (x : Int) (c : Nat) : fb (l.set m (x, c)) = (fb l).set m (x, nf c) := by simp [fb, List.map_set]

theorem below_drewN {B : Nat} {a w : World} (h : Below B a w) (n : Nat) : Below B a (w.drewN n) := ⟨h.os, h.tape, h.output, h.size, h.block⟩

theorem sum_set {w wr wo W : World} {o : Obj} {L : Bins} {gg cr m q1 q2 q3 : Nat} {x : Int} {c : Nat} (HO : Own2 44 w wr (.slice (some ⟨gg, 0, none⟩) L.length cr) (fb L)) (hwo : wo = wr.alloc o) (hW : W = ((wo.drewN q1).drewN q2).drewN q3)
   (ho : W.ownsRow 0 44 2 (.slice (some ⟨gg, 0, none⟩) L.length cr) L.length (pc (fb L))) (hm : m < L.length) (hx : L[m].1 = x) :
    Own2 44 w ((W.setCell ⟨gg, m * 2 + 1, none⟩ (.float .f64 (nf c))).drew) (.slice (some ⟨gg, 0, none⟩) L.length cr) (fb (L.set m (x, c))) := by
  have hg := HO.1.2 gg rfl
  refine ⟨⟨?_, fun k hk => by cases hk; exact hg⟩, ?_⟩
  · have h := owns_setN ho (m * 2 + 1) (.float .f64 (nf c))
    rw [← pc_set (fb L) x (nf c) m (by rw [fb_length]; exact hm) (by rw [fb_get]; exact hx), ← fb_set] at h
    have hl : (fb (L.set m (x, c))).length = L.length := by rw [fb_length, List.length_set]
    rw [hl]
    exact h
  · subst hW hwo
    exact ((below_drewN (below_drewN (below_drewN (HO.2.alloc HO.2.size o) q1) q2) q3).setCell hg _).drew

def AtRel (L : Bins) (i : Int) (W wr : World) (a : Value) : Prop :=
  ∃ m q, m ≤ L.length ∧ a = .int .i64 (m : Int) ∧ wr = W.drewN q ∧ Hid (∀ j, (h : j < L.length) → m ≤ j → i < L[j].1)

theorem run_slice_tailN {P : Program} (t e : TypeId) (ht : P.underlying t = some (.slice e)) (size : Nat) (g off n c m : Nat) (h1 : m ≤ n) (_h2 : n ≤ c) (hz : ∀ w, (sizeOf e).run P w = .ok size w) :
    ∃ ao, (m = c ∨ ao = some ⟨g, off + m * size, none⟩) ∧ ∀ w, (Instr.slice t (.slice (some ⟨g, off, none⟩) n c) (some (.int .i64 (m : Int))) none none).run P w = .ok (.slice ao (n - m) (c - m)) w := by
  have hh : (m : Int) ≤ (n : Int) := by omega
  by_cases hne : c = m
  · subst hne
    refine ⟨some ⟨g, off, none⟩, .inl rfl, fun w => ?_⟩
    simp [Instr.slice, run_underlying ht, Instr.sliceBounds, go_sem, hh, hz]
  · refine ⟨some ⟨g, off + m * size, none⟩, .inr rfl, fun w => ?_⟩
    simp [Instr.slice, run_underlying ht, Instr.sliceBounds, go_sem, hh, hz, hne]

/-- s[m:] at the slice's end. -/
theorem run_slice_end {P : Program} (t e : TypeId) (ht : P.underlying t = some (.slice e)) (size : Nat) (ao : Option Addr) (n c m : Nat) (h1 : m = n) (h2 : n ≤ c) (hz : ∀ w, (sizeOf e).run P w = .ok size w) :
    ∃ ao', ∀ w, (Instr.slice t (.slice ao n c) (some (.int .i64 (m : Int))) none none).run P w = .ok (.slice ao' 0 (c - m)) w := by
  subst h1
  by_cases hne : c = m
  · subst hne
    refine ⟨ao, fun w => ?_⟩
    cases ao <;> simp [Instr.slice, run_underlying ht, Instr.sliceBounds, go_sem, hz]
  · cases ao with
    | none => refine ⟨none, fun w => ?_⟩; simp [Instr.slice, run_underlying ht, Instr.sliceBounds, go_sem, hz]
    | some a => refine ⟨some (a.add (m * size)), fun w => ?_⟩; simp [Instr.slice, run_underlying ht, Instr.sliceBounds, go_sem, hz, hne]

theorem pair_new (w : World) (x : Int) (b : Nat) (t : TypeId) : ∀ j u, (pc [(x, b)])[j]? = some u → ((w.alloc (.cells #[.int .i64 x, .float .f64 b] t)).drew).cell? ((⟨w.heap.size, 0, none⟩ : Addr).add j) = some u := by
  intro j u hj
  have hadd : (⟨w.heap.size, 0, none⟩ : Addr).add j = ⟨w.heap.size, 0 + j, none⟩ := by unfold Addr.add; split <;> simp_all
  rw [hadd]
  show (w.alloc (.cells #[.int .i64 x, .float .f64 b] t)).cell? _ = _
  rw [cell_of_row _ _ _ _ _ _ (heap_alloc_new w (.cells #[.int .i64 x, .float .f64 b] t))]
  simpa [pc] using hj

theorem owns2_prefix {e : TypeId} {w : World} {ao : Option Addr} {n c m : Nat} {L : Bins} (h : w.ownsRow 0 e 2 (.slice ao n c) n (pc (fb L))) (hm : m ≤ n) : w.ownsRow 0 e 2 (.slice ao m c) m (pc (fb (L.take m))) := by
  obtain ⟨h1, h2⟩ := h
  rw [pc_length, fb_length] at h1
  have hl : (pc (fb (L.take m))).length = m * 2 := by rw [pc_length, fb_length, List.length_take]; omega
  refine ⟨hl, ?_⟩
  rcases h2 with ⟨h2, h3⟩ | ⟨g, cap, cur, h2, hb, hg, hn, hcm, hs, ht⟩
  · cases h2
    have : m = 0 := by omega
    subst this
    exact .inl ⟨rfl, rfl⟩
  · cases h2
    refine .inr ⟨g, c, cur, rfl, hb, hg, by omega, hcm, hs, ?_⟩
    rw [fb_take, pc_take, ← ht, List.take_take]
    congr 1
    omega

theorem Tryz.sizeSB (w : World) : (sizeOf 44).run Tryz.prog w = .ok 2 w := by kernel_rfl

/-- append of an empty slice. -/
theorem run_append_none {P : Program} (t ty e : TypeId) (ht : P.underlying t = some (.slice e)) (i : TypeInfo) (hi : P.info? e = some i) (ao : Option Addr) (n c : Nat) (a2 : Option Addr) (c2 : Nat) (w : World) (hn : n ≤ c) :
    (Builtin.append_ #[t, t] ty #[.slice ao n c, .slice a2 0 c2]).run P w = .ok (.slice ao n c) w := by
  cases a2 <;> cases ao <;> simp [Builtin.append_, run_underlying ht, sizeOf, typeInfo, hi, Builtin.lenOf, hn, Builtin.firstCells, loadCells, loadCellsFrom, storeCells]

section
variable {P : Program} (w : World)
theorem wp_append_none {o : Oper} {a : Act} {K : Act → World → Prop} {Q : Exit → Act → World → Prop} (s x : Operand) (t : TypeId)
    (ho : o.op = .call { callee := .builtin .append, args := #[s, x], argTypes := #[t, t] }) (e : TypeId) (i : TypeInfo) (ht : P.underlying t = some (.slice e)) (hi : P.info? e = some i)
    (v : Value) (hs : a.eval s = v) (hv : ∃ ao n c, v = .slice ao n c ∧ n ≤ c) (a2 : Option Addr) (c2 : Nat) (hx : a.eval x = .slice a2 0 c2) (h : K (a.put o.dst v) w) : o.wp P a w K Q := by
  obtain ⟨ao, n, c, rfl, hn⟩ := hv
  have hr := run_append_none (P := P) t o.type e ht i hi ao n c a2 c2 w hn
  unfold Oper.wp execOp
  simp only [ho, resolve, invoke, builtin, Sem.run_bind, Sem.run_pure, Result.andThen_ok, List.map_toArray, List.map_cons, List.map_nil, hs, hx, hr]
  exact h
end

theorem own2_lt {e : TypeId} {w : World} {v : Value} {n : Nat} {xs : List Value} (h : w.ownsRow 0 e 2 v n xs) : ∀ k, v.ownBlock = some k → k < w.heap.size := fun k hk => (h.lt k hk).2

theorem own_same (ao : Option Addr) (n c n' c' : Nat) : (Value.slice ao n c).ownBlock = (Value.slice ao n' c').ownBlock := by cases ao <;> rfl

theorem sum_grow {e : TypeId} {w W w1 w2 : World} {v v2 : Value} {n' : Nat} {ps : List (Int × Nat)} (hb : Below w.heap.size w W) (h1 : Below W.heap.size W w1) (hv : ∀ k, v.ownBlock = some k → w.heap.size ≤ k)
   (hown : w2.ownsRow 0 e 2 v2 n' (pc ps)) (hn : n' = ps.length) (hg : w1.grownBy w2 v.ownBlock) (hk : v2.ownBlock = v.ownBlock ∨ v2.ownBlock = some w1.heap.size) : Own2 e w w2 v2 ps := by
  subst hn
  have hz := hb.size
  have hz1 := h1.size
  refine ⟨⟨hown, ?_⟩, ((hb.trans (h1.mono hz)).grown hg (by omega) hv)⟩
  intro k h
  rcases hk with hk | hk
  · exact hv k (hk ▸ h)
  · rw [hk] at h; cases h; omega

theorem tail_news {w : World} {e : TypeId} {g n c m : Nat} {L : Bins} (h : w.ownsRow 0 e 2 (.slice (some ⟨g, 0, none⟩) n c) n (pc (fb L))) : ∀ j u, (pc (fb (L.drop m)))[j]? = some u → w.cell? ((⟨g, m * 2, none⟩ : Addr).add j) = some u := by
  intro j u hj
  have hadd : ∀ a j, (⟨g, a, none⟩ : Addr).add j = ⟨g, a + j, none⟩ := fun a j => by unfold Addr.add; split <;> simp_all
  have hsplit : pc (fb L) = pc (fb (L.take m)) ++ pc (fb (L.drop m)) := by rw [← pc_append, ← fb_append, List.take_append_drop]
  by_cases hm : m ≤ L.length
  · have hl : (pc (fb (L.take m))).length = m * 2 := by rw [pc_length, fb_length, List.length_take]; omega
    have := h.cells (g := g) rfl (m * 2 + j) u (by rw [hsplit, List.getElem?_append_right (by omega), hl, Nat.add_sub_cancel_left]; exact hj)
    rw [hadd, Nat.zero_add] at this
    rw [hadd]
    exact this
  · rw [List.drop_eq_nil_of_le (by omega)] at hj
    simp [fb, pc] at hj

set_option maxRecDepth 100000 in
set_option maxHeartbeats 800000 in
theorem summed_any (ao : Option Addr) (cp : Nat) (xs : Bins) (w : World) (hl : Lie2 w ao (fb xs)) (hn : xs.length ≤ 2147483647) (ht : tot xs < 9007199254740992) :
    Calls Tryz.prog 30 #[.slice ao xs.length cp] w fun e w' => GivesP 44 (fb (summed xs)) w e w' := by
  have HL := Lib.hid hl; clear hl
  have HT := Lib.hid ht; clear ht
  go_enter Tryz.func30, Tryz.ntmps30
  go_wp2
  go_loopw [3, 9] (fun v i wr => SumRel xs w wr v i) (fun _ i _ => xs.length - (intOf i).toNat)
  case atStart => exact ⟨0, none, 0, by omega, rfl, rfl, by rw [List.take_zero]; exact Own2.nil _ _⟩
  case round =>
    obtain ⟨k, ar, cr, hk, rfl, rfl, hown⟩ := hrel
    by_cases hlt : k < xs.length
    · have hbw := hown.2
      rcases HL.out.later hbw with h0 | ⟨g, off, rfl, hcell⟩
      · have := congrArg List.length h0; rw [fb_length, List.length_nil] at this; omega
      obtain ⟨c0, c1⟩ := hcell k (by rw [fb_length]; exact hlt)
      rw [fb_get] at c0 c1
      dsimp only at c0 c1
      have hsn : summed (xs.take (k + 1)) = insB xs[k].1 xs[k].2 (summed (xs.take k)) := by rw [List.take_succ_eq_append_getElem hlt, summed_snoc]
      have hasc := summed_asc (xs.take k)
      have hlen : (summed (xs.take k)).length ≤ k := by have := summed_length (xs.take k); rw [List.length_take] at this; omega
      have htk : tot (summed (xs.take k)) + xs[k].2 ≤ tot xs := by rw [summed_tot, ← tot_succ xs k hlt]; exact tot_take xs (k + 1)
      obtain ⟨L, hL⟩ : ∃ L, L = summed (xs.take k) := ⟨_, rfl⟩
      rw [← hL] at hsn hasc hlen htk hown ⊢
      have HSN := Lib.hid hsn
      have HAS := Lib.hid hasc
      have HTK := Lib.hid htk
      have HLL := Lib.hid hL
      obtain ⟨x, hx⟩ : ∃ x, x = xs[k].1 := ⟨_, rfl⟩
      obtain ⟨n, hnn⟩ : ∃ n, n = xs[k].2 := ⟨_, rfl⟩
      have HX := Lib.hid hx
      have HNN := Lib.hid hnn
      rw [← hx] at c0
      rw [← hnn] at c1
      have HO := Lib.hid hown
      have hz := hbw.size
      clear hsn hasc htk hL hx hnn hown hcell hbw
      have hl2 := lie2_of_owns HO.out.1.1
      have hB := heap_alloc_new wr (.cells #[.int .i64 x, .float .f64 (nf n)] 44)
      have hb0 : (wr.alloc (.cells #[.int .i64 x, .float .f64 (nf n)] 44)).cell? ⟨wr.heap.size, 0, none⟩ = some (.int .i64 x) := cell_of_row _ _ 0 _ _ _ hB
      have hb1 : (wr.alloc (.cells #[.int .i64 x, .float .f64 (nf n)] 44)).cell? ⟨wr.heap.size, 1, none⟩ = some (.float .f64 (nf n)) := cell_of_row _ _ 1 _ _ _ hB
      have hlw : (wr.alloc (.cells #[.int .i64 x, .float .f64 (nf n)] 44)).ownsRow 0 44 2 (.slice ar L.length cr) L.length (pc (fb L)) := by
        have := HO.out.1.1.alloc (.cells #[.int .i64 x, .float .f64 (nf n)] 44)
        rwa [fb_length] at this
      have hcr : L.length ≤ cr := hl2.2.1
      have HLW := Lib.hid hlw
      have HBB := Lib.hid hB
      clear hlw hl2 hB
      go_wp2
      obtain ⟨B, hBB⟩ : ∃ B, B = wr.heap.size := ⟨_, rfl⟩
      rw [← hBB] at hb0 hb1 ⊢
      have HBE := Lib.hid hBB
      clear hBB c0 c1
      revert hb0 hb1 HLW HBB
      obtain ⟨wo, hwo⟩ : ∃ wo, wo = wr.alloc (.cells #[.int .i64 x, .float .f64 (nf n)] 44) := ⟨_, rfl⟩
      rw [← hwo]
      have HWO := Lib.hid hwo
      clear hwo
      intro HLW HBB hb1 hb0
      go_loopw [6] (fun a wr2 => AtRel L x wo wr2 a) (fun a _ => (intOf a).toNat)
      case atStart => exact ⟨L.length, 0, by omega, rfl, rfl, fun j h hm => by omega⟩
      case round =>
        obtain ⟨m, q, hm, rfl, rfl, HM⟩ := hrel
        by_cases h0 : 0 < m
        · obtain ⟨m, rfl⟩ : ∃ j, m = j + 1 := ⟨m - 1, by omega⟩
          obtain ⟨gg, rfl, hcell, hfz⟩ := owns2_some HLW.out (by rw [fb_length]; omega)
          obtain ⟨d0, d1⟩ := hcell m (by rw [fb_length]; omega)
          have hfz1 := hfz (m * 2 + 1)
          clear hfz
          rw [fb_get] at d0 d1
          dsimp only at d0 d1
          obtain ⟨y, hy⟩ : ∃ y, y = L[m].1 := ⟨_, rfl⟩
          rw [← hy] at d0
          have HY := Lib.hid hy
          clear hy hcell
          have i1 : IntKind.i64.wrap (((m + 1 : Nat) : Int) - 1) = (m : Int) := by rw [IntKind.wrap_i64]; omega
          have i6 : IntKind.i64.wrap (m : Int) = (m : Int) := by rw [IntKind.wrap_i64]; omega
          have i2 : (0 : Int) ≤ (m : Int) := by omega
          have i3 : ((m : Int)).toNat = m := by omega
          have i4 : m < L.length := by omega
          have i5 : (m : Int) < (L.length : Int) := by omega
          have hg0 : True := trivial
          by_cases hgt : x < y
          · have hgt' : decide (x < y) = true := by simpa using hgt
            go_wp2
            go_quiet (fail)
            have hrel' : ∀ j, (h : j < L.length) → m ≤ j → x < L[j].1 := by
              intro j h hj
              by_cases hjm : j = m
              · subst hjm; rw [← HY.out]; exact hgt
              · exact HM.out j h (by omega)
            have HR := Lib.hid hrel'
            clear hrel' HM hgt hgt'
            go_wp2
            go_roundw
            case rel => exact ⟨m, q + nq, by omega, by go_num, rfl, HR.out⟩
            case measure => simp [intOf]
          · have hgt' : decide (x < y) = false := by simpa using hgt
            by_cases hxy : y = x
            · have hxy' : (y == x) = true := by simpa using hxy
              have HXY := Lib.hid hxy
              clear hxy
              go_wp2
              go_quiet (fail)
              go_wp2
              revert nq
              intro n1
              go_quiet (fail)
              go_wp2
              obtain ⟨W, hW⟩ : ∃ W, W = ((wo.drewN q).drewN n1).drewN nq := ⟨_, rfl⟩
              have e1 : W.cell? ⟨gg, m * 2 + 1, none⟩ = some (.float .f64 (nf L[m].2)) := by rw [hW]; exact d1
              have eb : W.cell? ⟨B, 1, none⟩ = some (.float .f64 (nf n)) := by rw [hW]; exact hb1
              have ef : W.frozen? ⟨gg, m * 2 + 1, none⟩ = false := by rw [hW]; exact hfz1
              have HWW := Lib.hid hW
              have ho : W.ownsRow 0 44 2 (.slice (some ⟨gg, 0, none⟩) L.length cr) L.length (pc (fb L)) := by rw [hW]; exact HLW.out
              have HOW := Lib.hid ho
              rw [← hW]
              have hadd := fun w : World => run_float_arith (P := Tryz.prog) w .add 30 .f64 _ _ _ (nf_add L[m].2 n (by have := get_le_tot L m i4; have := HTK.out; have := HT.out; rw [← HNN.out] at *; omega))
              clear hW ho d0 d1 hb0 hb1 hfz1 hg0 hgt hgt' hxy'
              go_region
              have hs := sum_set (x := x) (c := L[m].2 + n) HO.out HWO.out HWW.out HOW.out i4 (by rw [← HY.out]; exact HXY.out)
              have hL' : summed (xs.take (k + 1)) = L.set m (x, L[m].2 + n) := by
                rw [HSN.out, ← HX.out, ← HNN.out]
                exact insB_set x n L[m].2 L m i4 (fun j hj hjm => by have := asc_lt HAS.out hj i4 hjm; have := HY.out; have := HXY.out; omega) (by have := HY.out; have := HXY.out; apply Prod.ext <;> simp <;> omega)
              have HS := Lib.hid hs
              have HLN := Lib.hid hL'
              clear hs hL' e1 eb ef hadd i1 i2 i3 i5 i6
              go_wp2
              go_roundw
              case rel =>
                refine ⟨k + 1, some ⟨gg, 0, none⟩, cr, by omega, by go_num, ?_, ?_⟩
                · rw [HLN.out, List.length_set]
                · rw [HLN.out, List.length_set]; exact HS.out
              case measure => simp [intOf]; omega
            · have hxy' : (y == x) = false := by simpa using hxy
              have hlo : ∀ j, (h : j < L.length) → j < m + 1 → L[j].1 < x := by
                intro j h hj
                by_cases hjm : j = m
                · subst hjm; have := HY.out; omega
                · have := asc_lt HAS.out h i4 (by omega); have := HY.out; omega
              have HLO := Lib.hid hlo
              clear hlo hxy
              go_wp2
              go_quiet (fail)
              go_wp2
              revert nq
              intro n1
              go_quiet (fail)
              go_wp2
              obtain ⟨M, hMM⟩ : ∃ M, M = m + 1 := ⟨_, rfl⟩
              have hMl : M ≤ L.length := by omega
              have eM : ((m : Int) + 1) = (M : Int) := by omega
              rw [← hMM] at HLO HM
              rw [eM]
              have HMM := Lib.hid hMM
              obtain ⟨ar, har⟩ : ∃ ar, ar = some (⟨gg, 0, none⟩ : Addr) := ⟨_, rfl⟩
              rw [← har] at HLW HO ⊢
              clear hMM eM har i1 i2 i3 i4 i5 i6
              obtain ⟨W, hW⟩ : ∃ W, W = ((wo.drewN q).drewN n1).drewN nq := ⟨_, rfl⟩
              have eb0 : W.cell? ⟨B, 0, none⟩ = some (.int .i64 x) := by rw [hW]; exact hb0
              have eb1 : W.cell? ⟨B, 1, none⟩ = some (.float .f64 (nf n)) := by rw [hW]; exact hb1
              have HOW : Hid (W.ownsRow 0 44 2 (.slice ar L.length cr) L.length (pc (fb L))) := by show World.ownsRow _ _ _ _ _ _ _; rw [hW]; exact HLW.out
              have HBW : Hid (Below w.heap.size w W) := by show Below _ _ _; rw [hW, HWO.out]; exact below_drewN (below_drewN (below_drewN (HO.out.2.alloc HO.out.2.size _) q) n1) nq
              have hs1 := run_slice_upto (P := Tryz.prog) 24 44 Tryz.underlying24 ar L.length cr M (M : Int) rfl (by omega) Tryz.sizeSB
              have hins : summed (xs.take (k + 1)) = L.take M ++ (x, n) :: L.drop M := by
                rw [HSN.out, ← HX.out, ← HNN.out]
                exact insB_new x n L M hMl HLO.out HM.out
              have HIN := Lib.hid hins
              have hll : (summed (xs.take (k + 1))).length = L.length + 1 := by rw [hins]; simp; omega
              have HLC := Lib.hid hll
              rw [← hW]
              clear hW hins hll d0 d1 hfz1 hg0 hgt hgt' hxy' hb0 hb1
              obtain ⟨i0, hi, hz0, hz1, hz2⟩ := info_parts Tryz.infoSB
              by_cases hE : M = L.length
              · obtain ⟨ao2, hs2⟩ := run_slice_end (P := Tryz.prog) 24 44 Tryz.underlying24 2 ar L.length cr M hE hcr Tryz.sizeSB
                have HE := Lib.hid hE
                clear hE
                have hr := heap_alloc_new W (.cells #[.int .i64 x, .float .f64 (nf n)] 44)
                have hnew : ∀ j u, (pc [(x, nf n)])[j]? = some u → ((W.alloc (.cells #[.int .i64 x, .float .f64 (nf n)] 44)).drew).cell? ((⟨W.heap.size, 0, none⟩ : Addr).add j) = some u := pair_new W x (nf n) _
                have howE : ((W.alloc (.cells #[.int .i64 x, .float .f64 (nf n)] 44)).drew).ownsRow 0 44 2 (.slice ar M cr) M (pc (fb (L.take M))) := ((owns2_prefix HOW.out (by omega)).alloc _)
                have HNEW := Lib.hid hnew
                have HOWE := Lib.hid howE
                clear hr hnew howE
                go_region_law (first | (rw [if_pos (by rfl)]; refine wp_append_none _ _ _ 24 rfl 44 i0 Tryz.underlying24 hi (.slice (some ⟨W.heap.size, 0, none⟩) 1 1) rfl ⟨_, _, _, rfl, Nat.le_refl _⟩ ao2 (cr - M) rfl ?_) | (rw [if_pos (by rfl)]; refine wp_append_own2 _ _ _ 24 rfl 44 i0 (.agg #[.int .i64 0, .float .f64 0]) 2 16 Tryz.underlying24 hi hz0 hz1 hz2 rfl (by decide) (.slice ar M cr) M (pc (fb (L.take M))) rfl HOWE.out ⟨W.heap.size, 0, none⟩ 1 1 (pc [(x, nf n)]) rfl rfl HNEW.out (pc_one _) (by unfold maxLen; omega) (by omega) ?_; intro v2 w2 hown2 hgrow2 hblk2))
                have hs := sum_grow (ps := fb (L.take M) ++ [(x, nf n)]) HBW.out ((Below.refl _ W).alloc (Nat.le_refl _) _).drew (v := .slice ar M cr) (fun k hk => HO.out.1.2 k ((own_same _ _ _ _ _).trans hk)) (by rw [pc_append]; exact hown2) (by rw [List.length_append, fb_length, List.length_take]; simp; omega) hgrow2 hblk2
                obtain ⟨ao3, n3, c3, rfl⟩ := owns_slice hown2
                obtain rfl := owns_len hown2
                have hfin : fb (L.take M) ++ [(x, nf n)] = fb (summed (xs.take (k + 1))) := by
                  rw [HIN.out, fb_append, HE.out, List.drop_length]; rfl
                rw [hfin] at hs
                have HS := Lib.hid hs
                clear hs hfin hown2 hgrow2 hblk2 hs1 hs2
                have hMM : M + 1 = (summed (xs.take (k + 1))).length := by rw [HLC.out, HE.out]
                rw [hMM] at HS ⊢
                clear hMM
                go_wp2
                go_roundw
                case rel => exact ⟨k + 1, ao3, c3, by omega, by go_num, rfl, HS.out⟩
                case measure => simp [intOf]; omega
              · have hlt2 : M < L.length := by omega
                have HB2 : Hid (W.ownsRow 0 44 2 (.slice ar L.length cr) L.length (pc (fb L))) := HOW
                obtain ⟨g1, har1, -, -⟩ := owns2_some HOW.out (by rw [fb_length]; omega)
                have HAR := Lib.hid har1
                obtain ⟨ao2, hao2, hs2⟩ := run_slice_tailN (P := Tryz.prog) 24 44 Tryz.underlying24 2 g1 0 L.length cr M hMl hcr Tryz.sizeSB
                rw [← har1] at hs2
                obtain rfl : ao2 = some ⟨g1, M * 2, none⟩ := by
                  rcases hao2 with h | h
                  · omega
                  · rw [h, Nat.zero_add]
                have hnw := tail_news (m := M) (by rw [← har1]; exact HOW.out)
                have hr := heap_alloc_new W (.cells #[.int .i64 x, .float .f64 (nf n)] 44)
                have howB : ((W.alloc (.cells #[.int .i64 x, .float .f64 (nf n)] 44)).drew).ownsRow 0 44 2 (.slice (some ⟨W.heap.size, 0, none⟩) 1 1) 1 (pc [(x, nf n)]) :=
                  ⟨rfl, .inr ⟨W.heap.size, 1, _, rfl, Nat.zero_le _, hr, Nat.le_refl _, by decide, rfl, rfl⟩⟩
                have hnews : ∀ j u, (pc (fb (L.drop M)))[j]? = some u → ((W.alloc (.cells #[.int .i64 x, .float .f64 (nf n)] 44)).drew).cell? ((⟨g1, M * 2, none⟩ : Addr).add j) = some u := by
                  intro j u hj
                  have h := hnw j u hj
                  show (W.alloc _).cell? _ = _
                  rw [World.cell?_of_block (Below.heap_alloc _ _ _ (World.block_lt_of_cell? W _ h))]
                  exact h
                have hdl : (pc (fb (L.drop M))).length = (L.length - M) * 2 := by rw [pc_length, fb_length, List.length_drop]
                have HNEW := Lib.hid hnews
                have HOWB := Lib.hid howB
                have HDL := Lib.hid hdl
                have hbl : Below W.heap.size W ((W.alloc (.cells #[.int .i64 x, .float .f64 (nf n)] 44)).drew) := ((Below.refl _ W).alloc (Nat.le_refl _) _).drew
                have HBL := Lib.hid hbl
                have hprefix := owns2_prefix HOW.out hMl
                have HPF := Lib.hid hprefix
                clear hnw hr howB hnews hdl hbl hao2 har1 hprefix
                go_region_law (first | (rw [if_pos (by rfl)]; refine wp_append_own2 _ _ _ 24 rfl 44 i0 (.agg #[.int .i64 0, .float .f64 0]) 2 16 Tryz.underlying24 hi hz0 hz1 hz2 rfl (by decide) (.slice (some ⟨W.heap.size, 0, none⟩) 1 1) 1 (pc [(x, nf n)]) rfl HOWB.out ⟨g1, M * 2, none⟩ (L.length - M) (cr - M) (pc (fb (L.drop M))) rfl HDL.out HNEW.out (pc_one _) (by unfold maxLen; omega) (by omega) ?_; intro v1 w1 hown1 hgrow1 hblk1; rw [← pc_append] at hown1; obtain ⟨ao1, n1, c1, rfl⟩ := owns_slice hown1; obtain rfl := owns_len hown1; obtain ⟨r1, rfl, -, -⟩ := owns2_some hown1 (by simp); have HOW1 := Lib.hid hown1; have hbw1 := HBL.out.grown hgrow1 HBL.out.size (fun k hk => by cases hk; exact Nat.le_refl _); have HBW1 := Lib.hid hbw1; have hp1 := (Fr.of_below hbw1).owns HPF.out (fun k hk => by have := own2_lt HPF.out k hk; omega); have HP1 := Lib.hid hp1; clear hown1 hgrow1 hblk1 hbw1 hp1) | (rw [if_pos (by rfl)]; refine wp_append_own2 _ _ _ 24 rfl 44 i0 (.agg #[.int .i64 0, .float .f64 0]) 2 16 Tryz.underlying24 hi hz0 hz1 hz2 rfl (by decide) (.slice ar M cr) M (pc (fb (L.take M))) rfl HP1.out ⟨r1, 0, none⟩ (1 + (L.length - M)) c1 (pc ([(x, nf n)] ++ fb (L.drop M))) rfl (by rw [pc_length, List.length_append, fb_length, List.length_drop]; rfl) (HOW1.out.cells rfl) (pc_one _) (by unfold maxLen; omega) (by omega) ?_; intro v2 w2 hown2 hgrow2 hblk2))
                have hs := sum_grow (ps := fb (L.take M) ++ ([(x, nf n)] ++ fb (L.drop M))) HBW.out HBW1.out (v := .slice ar M cr) (fun k hk => HO.out.1.2 k ((own_same _ _ _ _ _).trans hk)) (by rw [pc_append]; exact hown2) (by simp [fb_length]; omega) hgrow2 hblk2
                obtain ⟨ao3, n3, c3, rfl⟩ := owns_slice hown2
                obtain rfl := owns_len hown2
                have hfin : fb (L.take M) ++ ([(x, nf n)] ++ fb (L.drop M)) = fb (summed (xs.take (k + 1))) := by
                  rw [HIN.out, fb_append]; rfl
                rw [hfin] at hs
                have HS := Lib.hid hs
                clear hs hfin hown2 hgrow2 hblk2 hs1 hs2
                have hMM : M + (1 + (L.length - M)) = (summed (xs.take (k + 1))).length := by rw [HLC.out]; omega
                rw [hMM] at HS ⊢
                clear hMM
                go_wp2
                go_roundw
                case rel => exact ⟨k + 1, ao3, c3, by omega, by go_num, rfl, HS.out⟩
                case measure => simp [intOf]; omega
        · have hm0 : m = 0 := by omega
          have HM0 := Lib.hid hm0
          have hg0 : ¬ (0 : Int) < (m : Int) := by omega
          have hg1 : decide ((0 : Int) < (m : Int)) = false := by simpa using hg0
          have HLO : Hid (∀ j, (h : j < L.length) → j < m → L[j].1 < x) := fun j h hj => by omega
          have hg2 : decide (0 < m) = false := by simpa using h0
          clear hm0
          go_wp2
          go_quiet (fail)
          go_wp2
          revert nq
          intro n1
          go_quiet (fail)
          go_wp2
          obtain ⟨M, hMM⟩ : ∃ M, M = m := ⟨_, rfl⟩
          have hMl : M ≤ L.length := by omega
          rw [← hMM] at HLO HM ⊢
          clear hMM
          obtain ⟨W, hW⟩ : ∃ W, W = ((wo.drewN q).drewN n1).drewN nq := ⟨_, rfl⟩
          have eb0 : W.cell? ⟨B, 0, none⟩ = some (.int .i64 x) := by rw [hW]; exact hb0
          have eb1 : W.cell? ⟨B, 1, none⟩ = some (.float .f64 (nf n)) := by rw [hW]; exact hb1
          have HOW : Hid (W.ownsRow 0 44 2 (.slice ar L.length cr) L.length (pc (fb L))) := by show World.ownsRow _ _ _ _ _ _ _; rw [hW]; exact HLW.out
          have HBW : Hid (Below w.heap.size w W) := by show Below _ _ _; rw [hW, HWO.out]; exact below_drewN (below_drewN (below_drewN (HO.out.2.alloc HO.out.2.size _) q) n1) nq
          have hs1 := run_slice_upto (P := Tryz.prog) 24 44 Tryz.underlying24 ar L.length cr M (M : Int) rfl (by omega) Tryz.sizeSB
          have hins : summed (xs.take (k + 1)) = L.take M ++ (x, n) :: L.drop M := by
            rw [HSN.out, ← HX.out, ← HNN.out]
            exact insB_new x n L M hMl HLO.out HM.out
          have HIN := Lib.hid hins
          have hll : (summed (xs.take (k + 1))).length = L.length + 1 := by rw [hins]; simp; omega
          have HLC := Lib.hid hll
          rw [← hW]
          clear hW hins hll hg0 hg1 hg2 h0 hb0 hb1
          obtain ⟨i0, hi, hz0, hz1, hz2⟩ := info_parts Tryz.infoSB
          by_cases hE : M = L.length
          · obtain ⟨ao2, hs2⟩ := run_slice_end (P := Tryz.prog) 24 44 Tryz.underlying24 2 ar L.length cr M hE hcr Tryz.sizeSB
            have HE := Lib.hid hE
            clear hE
            have hr := heap_alloc_new W (.cells #[.int .i64 x, .float .f64 (nf n)] 44)
            have hnew : ∀ j u, (pc [(x, nf n)])[j]? = some u → ((W.alloc (.cells #[.int .i64 x, .float .f64 (nf n)] 44)).drew).cell? ((⟨W.heap.size, 0, none⟩ : Addr).add j) = some u := pair_new W x (nf n) _
            have howE : ((W.alloc (.cells #[.int .i64 x, .float .f64 (nf n)] 44)).drew).ownsRow 0 44 2 (.slice ar M cr) M (pc (fb (L.take M))) := ((owns2_prefix HOW.out (by omega)).alloc _)
            have HNEW := Lib.hid hnew
            have HOWE := Lib.hid howE
            clear hr hnew howE
            go_region_law (first | (rw [if_pos (by rfl)]; refine wp_append_none _ _ _ 24 rfl 44 i0 Tryz.underlying24 hi (.slice (some ⟨W.heap.size, 0, none⟩) 1 1) rfl ⟨_, _, _, rfl, Nat.le_refl _⟩ ao2 (cr - M) rfl ?_) | (rw [if_pos (by rfl)]; refine wp_append_own2 _ _ _ 24 rfl 44 i0 (.agg #[.int .i64 0, .float .f64 0]) 2 16 Tryz.underlying24 hi hz0 hz1 hz2 rfl (by decide) (.slice ar M cr) M (pc (fb (L.take M))) rfl HOWE.out ⟨W.heap.size, 0, none⟩ 1 1 (pc [(x, nf n)]) rfl rfl HNEW.out (pc_one _) (by unfold maxLen; omega) (by omega) ?_; intro v2 w2 hown2 hgrow2 hblk2))
            have hs := sum_grow (ps := fb (L.take M) ++ [(x, nf n)]) HBW.out ((Below.refl _ W).alloc (Nat.le_refl _) _).drew (v := .slice ar M cr) (fun k hk => HO.out.1.2 k ((own_same _ _ _ _ _).trans hk)) (by rw [pc_append]; exact hown2) (by rw [List.length_append, fb_length, List.length_take]; simp; omega) hgrow2 hblk2
            obtain ⟨ao3, n3, c3, rfl⟩ := owns_slice hown2
            obtain rfl := owns_len hown2
            have hfin : fb (L.take M) ++ [(x, nf n)] = fb (summed (xs.take (k + 1))) := by
              rw [HIN.out, fb_append, HE.out, List.drop_length]; rfl
            rw [hfin] at hs
            have HS := Lib.hid hs
            clear hs hfin hown2 hgrow2 hblk2 hs1 hs2
            have hMM : M + 1 = (summed (xs.take (k + 1))).length := by rw [HLC.out, HE.out]
            rw [hMM] at HS ⊢
            clear hMM
            go_wp2
            go_roundw
            case rel => exact ⟨k + 1, ao3, c3, by omega, by go_num, rfl, HS.out⟩
            case measure => simp [intOf]; omega
          · have hlt2 : M < L.length := by omega
            have HB2 : Hid (W.ownsRow 0 44 2 (.slice ar L.length cr) L.length (pc (fb L))) := HOW
            obtain ⟨g1, har1, -, -⟩ := owns2_some HOW.out (by rw [fb_length]; omega)
            have HAR := Lib.hid har1
            obtain ⟨ao2, hao2, hs2⟩ := run_slice_tailN (P := Tryz.prog) 24 44 Tryz.underlying24 2 g1 0 L.length cr M hMl hcr Tryz.sizeSB
            rw [← har1] at hs2
            obtain rfl : ao2 = some ⟨g1, M * 2, none⟩ := by
              rcases hao2 with h | h
              · omega
              · rw [h, Nat.zero_add]
            have hnw := tail_news (m := M) (by rw [← har1]; exact HOW.out)
            have hr := heap_alloc_new W (.cells #[.int .i64 x, .float .f64 (nf n)] 44)
            have howB : ((W.alloc (.cells #[.int .i64 x, .float .f64 (nf n)] 44)).drew).ownsRow 0 44 2 (.slice (some ⟨W.heap.size, 0, none⟩) 1 1) 1 (pc [(x, nf n)]) :=
              ⟨rfl, .inr ⟨W.heap.size, 1, _, rfl, Nat.zero_le _, hr, Nat.le_refl _, by decide, rfl, rfl⟩⟩
            have hnews : ∀ j u, (pc (fb (L.drop M)))[j]? = some u → ((W.alloc (.cells #[.int .i64 x, .float .f64 (nf n)] 44)).drew).cell? ((⟨g1, M * 2, none⟩ : Addr).add j) = some u := by
              intro j u hj
              have h := hnw j u hj
              show (W.alloc _).cell? _ = _
              rw [World.cell?_of_block (Below.heap_alloc _ _ _ (World.block_lt_of_cell? W _ h))]
              exact h
            have hdl : (pc (fb (L.drop M))).length = (L.length - M) * 2 := by rw [pc_length, fb_length, List.length_drop]
            have HNEW := Lib.hid hnews
            have HOWB := Lib.hid howB
            have HDL := Lib.hid hdl
            have hbl : Below W.heap.size W ((W.alloc (.cells #[.int .i64 x, .float .f64 (nf n)] 44)).drew) := ((Below.refl _ W).alloc (Nat.le_refl _) _).drew
            have HBL := Lib.hid hbl
            have hprefix := owns2_prefix HOW.out hMl
            have HPF := Lib.hid hprefix
            clear hnw hr howB hnews hdl hbl hao2 har1 hprefix
            go_region_law (first | (rw [if_pos (by rfl)]; refine wp_append_own2 _ _ _ 24 rfl 44 i0 (.agg #[.int .i64 0, .float .f64 0]) 2 16 Tryz.underlying24 hi hz0 hz1 hz2 rfl (by decide) (.slice (some ⟨W.heap.size, 0, none⟩) 1 1) 1 (pc [(x, nf n)]) rfl HOWB.out ⟨g1, M * 2, none⟩ (L.length - M) (cr - M) (pc (fb (L.drop M))) rfl HDL.out HNEW.out (pc_one _) (by unfold maxLen; omega) (by omega) ?_; intro v1 w1 hown1 hgrow1 hblk1; rw [← pc_append] at hown1; obtain ⟨ao1, n1, c1, rfl⟩ := owns_slice hown1; obtain rfl := owns_len hown1; obtain ⟨r1, rfl, -, -⟩ := owns2_some hown1 (by simp); have HOW1 := Lib.hid hown1; have hbw1 := HBL.out.grown hgrow1 HBL.out.size (fun k hk => by cases hk; exact Nat.le_refl _); have HBW1 := Lib.hid hbw1; have hp1 := (Fr.of_below hbw1).owns HPF.out (fun k hk => by have := own2_lt HPF.out k hk; omega); have HP1 := Lib.hid hp1; clear hown1 hgrow1 hblk1 hbw1 hp1) | (rw [if_pos (by rfl)]; refine wp_append_own2 _ _ _ 24 rfl 44 i0 (.agg #[.int .i64 0, .float .f64 0]) 2 16 Tryz.underlying24 hi hz0 hz1 hz2 rfl (by decide) (.slice ar M cr) M (pc (fb (L.take M))) rfl HP1.out ⟨r1, 0, none⟩ (1 + (L.length - M)) c1 (pc ([(x, nf n)] ++ fb (L.drop M))) rfl (by rw [pc_length, List.length_append, fb_length, List.length_drop]; rfl) (HOW1.out.cells rfl) (pc_one _) (by unfold maxLen; omega) (by omega) ?_; intro v2 w2 hown2 hgrow2 hblk2))
            have hs := sum_grow (ps := fb (L.take M) ++ ([(x, nf n)] ++ fb (L.drop M))) HBW.out HBW1.out (v := .slice ar M cr) (fun k hk => HO.out.1.2 k ((own_same _ _ _ _ _).trans hk)) (by rw [pc_append]; exact hown2) (by simp [fb_length]; omega) hgrow2 hblk2
            obtain ⟨ao3, n3, c3, rfl⟩ := owns_slice hown2
            obtain rfl := owns_len hown2
            have hfin : fb (L.take M) ++ ([(x, nf n)] ++ fb (L.drop M)) = fb (summed (xs.take (k + 1))) := by
              rw [HIN.out, fb_append]; rfl
            rw [hfin] at hs
            have HS := Lib.hid hs
            clear hs hfin hown2 hgrow2 hblk2 hs1 hs2
            have hMM : M + (1 + (L.length - M)) = (summed (xs.take (k + 1))).length := by rw [HLC.out]; omega
            rw [hMM] at HS ⊢
            clear hMM
            go_wp2
            go_roundw
            case rel => exact ⟨k + 1, ao3, c3, by omega, by go_num, rfl, HS.out⟩
            case measure => simp [intOf]; omega
    · obtain rfl : k = xs.length := by omega
      have HO := Lib.hid hown
      clear hown hlt
      go_wp2
      go_ret
      have h := HO.out
      rw [List.take_length] at h
      refine ⟨ar, cr, by rw [List.take_length, fb_length]; rfl, ?_⟩
      rw [fb_length]
      exact h
end Go.Proofs.YtnmbjalojgccmaaGreat
end
