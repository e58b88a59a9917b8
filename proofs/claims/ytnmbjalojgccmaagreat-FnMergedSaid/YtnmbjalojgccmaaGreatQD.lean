/-
  A dense store in memory: its five fields (behind them perhaps more), its row of counts; plainly.
-/
import Derived.Test.YtnmbjalojgccmaaGreatQC
import Derived.Laws.CopyOwn
import Derived.Deep.RegionLaw
import Derived.Deep.RegionHeld3
import Derived.Deep.QuietTactic
import Derived.BigQuiet
import Derived.StillTailTactics
section
namespace Go.Proofs.YtnmbjalojgccmaaGreat
open Go.RowKit

/-- The five fields of a dense store in block p; 'rest': what stands behind them there. -/
def DS (w : World) (p : Nat) (rest : List Value) (T : TypeId) (b c o m x : Value) : Prop := w.heap[p]? = some (.cells (b :: c :: o :: m :: x :: rest).toArray T (0, 0))

section
variable {w w' : World} {p : Nat} {rest : List Value} {T : TypeId} {b c o m x : Value}
theorem DS.cells (h : DS w p rest T b c o m x) : w.cell? ⟨p, 0, none⟩ = some b ∧ w.cell? ⟨p, 1, none⟩ = some c ∧ w.cell? ⟨p, 2, none⟩ = some o ∧ w.cell? ⟨p, 3, none⟩ = some m ∧ w.cell? ⟨p, 4, none⟩ = some x :=
  ⟨cell_of_row _ _ 0 _ _ _ h, cell_of_row _ _ 1 _ _ _ h, cell_of_row _ _ 2 _ _ _ h, cell_of_row _ _ 3 _ _ _ h, cell_of_row _ _ 4 _ _ _ h⟩
theorem DS.free (h : DS w p rest T b c o m x) (i : Nat) : w.frozen? ⟨p, i, none⟩ = false := frozen_of_row w p i _ _ h
theorem DS.lt (h : DS w p rest T b c o m x) : p < w.heap.size := lt_of_block h
theorem DS.fr {S : Nat → Prop} (h : DS w p rest T b c o m x) (hf : Fr S w w') (hp : ¬ S p) : DS w' p rest T b c o m x := hf.heap h hp
theorem DS.later (h : DS w p rest T b c o m x) (hb : Below w.heap.size w w') : DS w' p rest T b c o m x := (hb.5 p (lt_of_block h)).trans h
theorem DS.drew (h : DS w p rest T b c o m x) : DS w.drew p rest T b c o m x := h
theorem DS.drewN (h : DS w p rest T b c o m x) (n : Nat) : DS (w.drewN n) p rest T b c o m x := h
theorem DS.set0 (h : DS w p rest T b c o m x) (v : Value) : DS (w.setCell ⟨p, 0, none⟩ v) p rest T v c o m x := (heap_setCell_same w p 0 _ T v h).trans (by rw [List.setIfInBounds_toArray]; rfl)
theorem DS.set1 (h : DS w p rest T b c o m x) (v : Value) : DS (w.setCell ⟨p, 1, none⟩ v) p rest T b v o m x := (heap_setCell_same w p 1 _ T v h).trans (by rw [List.setIfInBounds_toArray]; rfl)
theorem DS.set2 (h : DS w p rest T b c o m x) (v : Value) : DS (w.setCell ⟨p, 2, none⟩ v) p rest T b c v m x := (heap_setCell_same w p 2 _ T v h).trans (by rw [List.setIfInBounds_toArray]; rfl)
theorem DS.set3 (h : DS w p rest T b c o m x) (v : Value) : DS (w.setCell ⟨p, 3, none⟩ v) p rest T b c o v x := (heap_setCell_same w p 3 _ T v h).trans (by rw [List.setIfInBounds_toArray]; rfl)
theorem DS.set4 (h : DS w p rest T b c o m x) (v : Value) : DS (w.setCell ⟨p, 4, none⟩ v) p rest T b c o m v := (heap_setCell_same w p 4 _ T v h).trans (by rw [List.setIfInBounds_toArray]; rfl)
end

/-- A row of L counts: at place j the count a j. -/
def row (a : Int → Nat) (L : Nat) : List Value := (List.range L).map fun (j : Nat) => Value.float .f64 (nf (a (j : Int)))
theorem row_length (a : Int → Nat) (L : Nat) : (row a L).length = L := by simp [row]
theorem row_get (a : Int → Nat) (L j : Nat) (h : j < L) : (row a L)[j]? = some (.float .f64 (nf (a (j : Int)))) := by
  unfold row
  rw [List.getElem?_map, List.getElem?_range h]; rfl
theorem row_ext {a b : Int → Nat} {L : Nat} (h : ∀ j : Nat, j < L → a (j : Int) = b (j : Int)) : row a L = row b L := by
  unfold row
  refine List.map_congr_left fun j hj => ?_
  rw [h j (List.mem_range.1 hj)]
theorem row_set (a : Int → Nat) (L j v : Nat) (_h : j < L) : (row a L).set j (.float .f64 (nf v)) = row (fun i => if i = (j : Int) then v else a i) L := by
  apply List.ext_getElem?
  intro i
  rw [List.getElem?_set]
  by_cases hi : i < L
  · rw [row_get _ _ _ hi]
    by_cases hij : j = i
    · subst hij; rw [if_pos rfl, if_pos (by rw [row_length]; exact hi), row_get _ _ _ hi, if_pos rfl]
    · rw [if_neg hij, row_get _ _ _ hi, if_neg (by omega)]
  · rw [List.getElem?_eq_none (by rw [row_length]; omega)]
    by_cases hij : j = i
    · subst hij; rw [if_pos rfl, if_neg (by rw [row_length]; exact hi), List.getElem?_eq_none (by rw [row_length]; omega)]
    · rw [if_neg hij, List.getElem?_eq_none (by rw [row_length]; omega)]

/-- The row at ⟨g, 0⟩ that the slice there owns. -/
def Row (w : World) (g L cp : Nat) (a : Int → Nat) : Prop := w.ownsRow 0 30 1 (.slice (some ⟨g, 0, none⟩) L cp) L (row a L)

section
variable {w w' : World} {g L cp : Nat} {a b : Int → Nat}
theorem Row.cell (h : Row w g L cp a) (j : Nat) (hj : j < L) : w.cell? ⟨g, j, none⟩ = some (.float .f64 (nf (a (j : Int)))) := by
  have h := World.ownsRow.cells h (g := g) rfl j _ (row_get a L j hj)
  have hadd : (⟨g, 0, none⟩ : Addr).add j = ⟨g, j, none⟩ := by unfold Addr.add; split <;> simp_all
  rwa [hadd] at h
theorem Row.block (h : Row w g L cp a) : ∃ cur, w.heap[g]? = some (.cells cur 30 (0, 0)) ∧ L ≤ cp ∧ cp ≤ maxLen ∧ cur.size = cp ∧ cur.toList.take L = row a L := by
  rcases h.2 with ⟨h2, _⟩ | ⟨g', cap', cur, hv, _, hg, hn, hm, hs, ht⟩
  · cases h2
  · cases hv
    rw [Nat.mul_one] at ht
    exact ⟨cur, hg, hn, hm, by simpa using hs, ht⟩
theorem Row.free (h : Row w g L cp a) (j : Nat) : w.frozen? ⟨g, j, none⟩ = false := by
  obtain ⟨cur, hg, _⟩ := h.block
  exact frozen_of_row w g j cur _ hg
theorem Row.le (h : Row w g L cp a) : L ≤ cp := by obtain ⟨_, _, h, _⟩ := h.block; exact h
theorem Row.lt (h : Row w g L cp a) : g < w.heap.size := by obtain ⟨_, h, _⟩ := h.block; exact lt_of_block h
theorem Row.fr {S : Nat → Prop} (h : Row w g L cp a) (hf : Fr S w w') (hg : ¬ S g) : Row w' g L cp a := hf.owns h (fun k hk => by cases hk; exact hg)
theorem Row.later (h : Row w g L cp a) (hb : Below w.heap.size w w') : Row w' g L cp a := h.fr (Fr.of_below hb) (by have := h.lt; omega)
theorem Row.drew (h : Row w g L cp a) : Row w.drew g L cp a := h
theorem Row.drewN (h : Row w g L cp a) (n : Nat) : Row (w.drewN n) g L cp a := h
theorem Row.ext (h : Row w g L cp a) (hab : ∀ j : Nat, j < L → a (j : Int) = b (j : Int)) : Row w g L cp b := by
  unfold Row at *
  rwa [row_ext hab] at h
theorem Row.other (h : Row w g L cp a) {p : Addr} (hp : p.block ≠ g) (v : Value) : Row (w.setCell p v) g L cp a := ownsRow_setCell_other h (fun e => by cases e; exact hp rfl) v
theorem Row.set (h : Row w g L cp a) (j v : Nat) (hj : j < L) : Row (w.setCell ⟨g, j, none⟩ (.float .f64 (nf v))) g L cp (fun i => if i = (j : Int) then v else a i) := by
  obtain ⟨h1, h2⟩ := h
  rcases h2 with ⟨h2, _⟩ | ⟨g', cap', cur, hv, hb, hg, hn, hm, hs, ht⟩
  · cases h2
  · cases hv
    refine ⟨by rw [row_length]; omega, .inr ⟨g, cp, cur.setIfInBounds j (.float .f64 (nf v)), rfl, hb, heap_setCell_same w g j cur _ _ hg, hn, hm, by simpa using hs, ?_⟩⟩
    rw [Array.toList_setIfInBounds, List.take_set, ht, row_set a L j v hj]
end
theorem DS.row {w : World} {p : Nat} {rest : List Value} {T : TypeId} {b c o m x : Value} (h : DS w p rest T b c o m x) {g : Nat} (hpg : p ≠ g) (i : Nat) (v : Value) : DS (w.setCell ⟨g, i, none⟩ v) p rest T b c o m x :=
  (Below.heap_setCell _ _ _ _ hpg).trans h
end Go.Proofs.YtnmbjalojgccmaaGreat
end
/-
  resetBins walked.
-/
section
namespace Go.Proofs.YtnmbjalojgccmaaGreat
open Go.RowKit

/-- Noughts from place lo to place hi. -/
def zer (lo hi : Int) (a : Int → Nat) : Int → Nat := fun j => if lo ≤ j ∧ j ≤ hi then 0 else a j

def ResetRel (g L cp : Nat) (a : Int → Nat) (lo hi : Int) (w wr : World) (i : Value) : Prop :=
  ∃ k : Int, i = .int .i64 k ∧ lo ≤ k ∧ (k ≤ hi + 1 ∨ k = lo) ∧ Row wr g L cp (zer lo (k - 1) a) ∧ Fr (fun b => b = g) w wr

set_option maxRecDepth 100000 in
set_option maxHeartbeats 400000 in
theorem reset_any (p g L cp : Nat) (rest : List Value) (T : TypeId) (a : Int → Nat) (c m x : Value) (off fr to : Int) (w : World) (hd : DS w p rest T (.slice (some ⟨g, 0, none⟩) L cp) c (.int .i64 off) m x) (hr : Row w g L cp a) (hpg : p ≠ g)
   (h0 : off ≤ fr) (h1 : to - off < L) (b1 : -1000000 ≤ off) (b2 : off ≤ 1000000) (b3 : fr ≤ 4000000) (b4 : -4000000 ≤ to) (b5 : to ≤ 4000000) :
    Calls Tryz.prog 240 #[.pointer (some ⟨p, 0, none⟩), .int .i64 fr, .int .i64 to] w fun e w' => e = .returned (.tuple #[]) ∧ Row w' g L cp (zer (fr - off) (to - off) a) ∧ Fr (fun b => b = g) w w' := by
  obtain ⟨-, -, d2, -, -⟩ := hd.cells
  have HD := Lib.hid hd
  have HR := Lib.hid hr
  clear hd hr
  go_enter Tryz.func240, Tryz.ntmps240
  go_wp2
  clear d2
  go_loopw [6] (fun i wr => ResetRel g L cp a (fr - off) (to - off) w wr i) (fun i _ => (to - off + 1 - intOf i).toNat)
  case atStart => exact ⟨fr - off, rfl, Int.le_refl _, .inr rfl, HR.out.ext (fun j _ => by unfold zer; rw [if_neg (by omega)]), Fr.refl _ _⟩
  case round =>
    obtain ⟨k, rfl, hk1, hk2, hrow, hfr⟩ := hrel
    have hdw := HD.out.fr hfr hpg
    obtain ⟨e0, -, e2, -, -⟩ := hdw.cells
    by_cases hlt : k ≤ to - off
    · obtain ⟨j, rfl⟩ : ∃ j : Nat, k = (j : Int) := ⟨k.toNat, by omega⟩
      have hjL : j < L := by omega
      have hjL' : (j : Int) < (L : Int) := by omega
      have hcell := hrow.cell j hjL
      have hfree := hrow.free j
      have HO := Lib.hid hrow
      have HF := Lib.hid hfr
      clear hrow hfr hdw
      go_wp2
      go_roundw
      case rel =>
        refine ⟨(j : Int) + 1, by go_num, by omega, .inl (by omega), ?_, HF.out.setCell (fun _ => rfl) _⟩
        have h := HO.out.set j 0 hjL
        rw [nf_zero] at h
        refine h.ext (fun i _ => ?_)
        unfold zer
        by_cases hij : (i : Int) = (j : Int)
        · rw [if_pos hij, if_pos (by omega)]
        · rw [if_neg hij]
          by_cases hi : fr - off ≤ (i : Int) ∧ (i : Int) ≤ (j : Int) - 1
          · rw [if_pos hi, if_pos (by omega)]
          · rw [if_neg hi, if_neg (by omega)]
      case measure => simp [intOf]; omega
    · have HO := Lib.hid hrow
      have HF := Lib.hid hfr
      clear hrow hfr hdw
      go_wp2
      go_end0
      refine ⟨rfl, HO.out.ext (fun i _ => ?_), HF.out⟩
      unfold zer
      by_cases hi : fr - off ≤ (i : Int) ∧ (i : Int) ≤ k - 1
      · rw [if_pos hi, if_pos (by omega)]
      · rw [if_neg hi, if_neg (by omega)]
end Go.Proofs.YtnmbjalojgccmaaGreat
end
/-
  A copy within a row; shiftCounts, centerCounts walked.
-/
section
namespace Go.Proofs.YtnmbjalojgccmaaGreat
open Go.RowKit

/-- The cells of a row from place lo on, so many. -/
def part (a : Int → Nat) (lo cnt : Nat) : List Value := (List.range cnt).map fun (j : Nat) => Value.float .f64 (nf (a ((lo + j : Nat) : Int)))
theorem part_length (a : Int → Nat) (lo cnt : Nat) : (part a lo cnt).length = cnt := by simp [part]
theorem part_get (a : Int → Nat) (lo cnt j : Nat) (h : j < cnt) : (part a lo cnt)[j]? = some (.float .f64 (nf (a ((lo + j : Nat) : Int)))) := by
  unfold part; rw [List.getElem?_map, List.getElem?_range h]; rfl
theorem part_one (a : Int → Nat) (lo cnt : Nat) : ∀ u ∈ part a lo cnt, u.oneCell' = true := by
  intro u h
  obtain ⟨j, _, rfl⟩ := List.mem_map.1 h
  rfl

/-- cnt counts from place lo on, laid from place d on. -/
def moved (a : Int → Nat) (lo cnt d : Nat) : Int → Nat := fun j => if (d : Int) ≤ j ∧ j < (d : Int) + cnt then a (j - d + lo) else a j

theorem Row.splice {w : World} {g L cp : Nat} {a : Int → Nat} (h : Row w g L cp a) (lo cnt d : Nat) (hd : d + cnt ≤ L) :
    ∃ cur, w.heap[g]? = some (.cells cur 30 (0, 0)) ∧ d + cnt ≤ cur.size ∧ Row (w.setRow g (cur.toList.take d ++ (part a lo cnt ++ cur.toList.drop (d + cnt))).toArray) g L cp (moved a lo cnt d) := by
  obtain ⟨cur, hg, h1, h2, h3, h4⟩ := h.block
  refine ⟨cur, hg, by omega, by rw [row_length]; omega, .inr ⟨g, cp, _, rfl, Nat.zero_le _, setRow_heap w g cur _ _ _ hg, h1, h2, ?_, ?_⟩⟩
  · simp only [List.size_toArray, List.length_append, List.length_take, List.length_drop, Array.length_toList, part_length]; omega
  · rw [Nat.mul_one]
    apply List.ext_getElem?
    intro i
    by_cases hi : i < L
    · rw [row_get _ _ _ hi, List.getElem?_take_of_lt hi]
      have hcur : i < cur.toList.length := by simp; omega
      have hci : cur.toList[i]? = some (.float .f64 (nf (a (i : Int)))) := by
        have := row_get a L i hi
        rw [← h4, List.getElem?_take_of_lt hi] at this
        exact this
      show (cur.toList.take d ++ (part a lo cnt ++ cur.toList.drop (d + cnt)))[i]? = _
      unfold moved
      by_cases c1 : i < d
      · rw [List.getElem?_append_left (by simp; omega), List.getElem?_take_of_lt c1, hci, if_neg (by omega)]
      · rw [List.getElem?_append_right (by simp; omega)]
        have e1 : (cur.toList.take d).length = d := by simp; omega
        rw [e1]
        by_cases c2 : i < d + cnt
        · rw [List.getElem?_append_left (by rw [part_length]; omega), part_get _ _ _ _ (by omega), if_pos (by omega)]
          congr 4
          omega
        · rw [List.getElem?_append_right (by rw [part_length]; omega), part_length, List.getElem?_drop, show d + cnt + (i - d - cnt) = i from by omega, hci, if_neg (by omega)]
    · rw [List.getElem?_eq_none (by rw [List.length_take]; omega), List.getElem?_eq_none (by rw [row_length]; omega)]

theorem fr_setRow (w : World) (g : Nat) (cs : Array Value) : Fr (fun b => b = g) w (w.setRow g cs) :=
  ⟨rfl, rfl, rfl, by simp [World.setRow], fun k _ hk => setRow_other w g k cs hk⟩

section
variable {P : Program}
theorem wpList_copy_row {ops : Array Oper} {rest : List Oper} {o : Oper} {a : Act} {w : World} {Q : Exit → Act → World → Prop} (hgd : o.guard = none) (d s : Operand) (dT sT : TypeId)
    (ho : o.op = .call { callee := .builtin .copy, args := #[d, s], argTypes := #[dT, sT] }) (elem : TypeId) (hu : P.underlying dT = some (.slice elem)) (hsz : (P.info? elem).map (·.size) = some 1)
    (g off dLen dCap : Nat) (ad : Addr) (sLen sCap : Nat) (hd : a.eval d = .slice (some ⟨g, off, none⟩) dLen dCap) (hs : a.eval s = .slice (some ad) sLen sCap)
    (cur : Array Value) (t : TypeId) (hg : w.heap[g]? = some (.cells cur t (0, 0))) (cs : List Value) (n : Nat) (hcn : cs.length = n) (hn : n = Nat.min sLen dLen)
    (hsrc : ∀ j v, cs[j]? = some v → w.cell? (ad.add j) = some v) (hfit : off + n ≤ cur.size) (h1 : ∀ v ∈ cs, v.oneCell' = true)
    (h : wpList P ops Q rest (a.put o.dst (goInt n)) (w.setRow g (cur.toList.take off ++ (cs ++ cur.toList.drop (off + n))).toArray)) : wpList P ops Q (o :: rest) a w := by
  subst hcn
  exact wpList_copy_own hgd d s dT sT ho elem hu hsz g off dLen dCap ad sLen sCap hd hs cur t hg cs hn hsrc hfit h1 h

/-- s[lo:hi], lo below the capacity. -/
theorem run_slice_mid (t e : TypeId) (ht : P.underlying t = some (.slice e)) (g n c lo hi : Nat) (h1 : lo ≤ hi) (h2 : hi ≤ c) (h3 : lo < c) (hz : ∀ w, (sizeOf e).run P w = .ok 1 w) (w : World) :
    (Instr.slice t (.slice (some ⟨g, 0, none⟩) n c) (some (.int .i64 (lo : Int))) (some (.int .i64 (hi : Int))) none).run P w = .ok (.slice (some ⟨g, lo, none⟩) (hi - lo) (c - lo)) w := by
  have hnl : ¬ hi < lo := by omega
  have hh2 : (hi : Int) ≤ (c : Int) := by omega
  have hne : ¬ c = lo := by omega
  simp [Instr.slice, run_underlying ht, Instr.sliceBounds, go_sem, hnl, hh2, hz, hne]
theorem run_slice_low (t e : TypeId) (ht : P.underlying t = some (.slice e)) (g n c lo : Nat) (h1 : lo ≤ n) (h2 : lo < c) (hz : ∀ w, (sizeOf e).run P w = .ok 1 w) (w : World) :
    (Instr.slice t (.slice (some ⟨g, 0, none⟩) n c) (some (.int .i64 (lo : Int))) none none).run P w = .ok (.slice (some ⟨g, lo, none⟩) (n - lo) (c - lo)) w := by
  have hh : (lo : Int) ≤ (n : Int) := by omega
  have hne : ¬ c = lo := by omega
  simp [Instr.slice, run_underlying ht, Instr.sliceBounds, go_sem, hh, hz, hne]
end

theorem Tryz.sizeF64 (w : World) : (sizeOf 30).run Tryz.prog w = .ok 1 w := by kernel_rfl
theorem Tryz.oneF64 : (Tryz.prog.info? 30).map (·.size) = some 1 := by kernel_rfl

set_option maxRecDepth 100000 in
set_option maxHeartbeats 1000000 in
theorem shift_any (p g L cp ma xa d : Nat) (rest : List Value) (T : TypeId) (a : Int → Nat) (c : Value) (off sh : Int) (w : World)
   (hd : DS w p rest T (.slice (some ⟨g, 0, none⟩) L cp) c (.int .i64 off) (.int .i64 (off + ma)) (.int .i64 (off + xa))) (hr : Row w g L cp a) (hpg : p ≠ g)
   (h1 : ma ≤ xa) (h2 : xa < L) (h3 : sh = (d : Int) - (ma : Int)) (h4 : d + (xa - ma) < L) (ha : ∀ j : Int, j < (ma : Int) ∨ (xa : Int) < j → a j = 0) (b1 : -1000000 ≤ off) (b2 : off ≤ 1000000) (b3 : L ≤ 1000000) :
    Calls Tryz.prog 239 #[.pointer (some ⟨p, 0, none⟩), .int .i64 sh] w fun e w' => e = .returned (.tuple #[]) ∧
      DS w' p rest T (.slice (some ⟨g, 0, none⟩) L cp) c (.int .i64 (off - sh)) (.int .i64 (off + ma)) (.int .i64 (off + xa)) ∧ Row w' g L cp (fun j => a (j - sh)) ∧ Fr (fun b => b = p ∨ b = g) w w' := by
  obtain ⟨d0, -, d2, d3, d4⟩ := hd.cells
  have hcpL := hr.le
  have i1 : IntKind.i64.wrap (off + (ma : Int) - off) = (ma : Int) := by rw [IntKind.wrap_i64]; omega
  have i2 : IntKind.i64.wrap (off + (xa : Int) - off) = (xa : Int) := by rw [IntKind.wrap_i64]; omega
  have HD := Lib.hid hd
  have HR := Lib.hid hr
  have HA := Lib.hid ha
  have H3 := Lib.hid h3
  have j0 : (d : Int) - (ma : Int) = sh := h3.symm
  have j1 : IntKind.i64.wrap ((ma : Int) + sh) = (d : Int) := by rw [IntKind.wrap_i64]; omega
  clear hd hr ha h3 j0
  go_enter Tryz.func239, Tryz.ntmps239
  go_wp2
  go_quiet (fail)
  go_wp2
  revert nq
  intro n1
  go_quiet (fail)
  go_wp2
  obtain ⟨W, hW⟩ : ∃ W, W = (w.drewN n1).drewN nq := ⟨_, rfl⟩
  have hdW : DS W p rest T (.slice (some ⟨g, 0, none⟩) L cp) c (.int .i64 off) (.int .i64 (off + ma)) (.int .i64 (off + xa)) := by rw [hW]; exact HD.out
  have hrW : Row W g L cp a := by rw [hW]; exact HR.out
  have HFW : Hid (Fr (fun b => b = p ∨ b = g) w W) := by show Fr _ _ _; rw [hW]; exact ((Fr.refl _ w).drewN n1).drewN nq
  rw [← hW]
  clear hW d0 d2 d3 d4
  obtain ⟨d0, -, d2, d3, d4⟩ := hdW.cells
  obtain ⟨cnt, hcnt⟩ : ∃ cnt, cnt = xa + 1 - ma := ⟨_, rfl⟩
  obtain ⟨cur, hcur, hsz, hspl⟩ := hrW.splice ma cnt d (by omega)
  have hsrc : ∀ j v, (part a ma cnt)[j]? = some v → W.drew.cell? ((⟨g, ma, none⟩ : Addr).add j) = some v := by
    intro j v hj
    have hjc : j < cnt := by
      rcases Nat.lt_or_ge j cnt with h | h
      · exact h
      · rw [List.getElem?_eq_none (by rw [part_length]; exact h)] at hj; cases hj
    rw [part_get _ _ _ _ hjc] at hj
    have hadd : (⟨g, ma, none⟩ : Addr).add j = ⟨g, ma + j, none⟩ := by unfold Addr.add; split <;> simp_all
    rw [hadd, ← hj]
    exact hrW.cell (ma + j) (by omega)
  have j2 : IntKind.i64.wrap ((xa : Int) + 1) = (xa : Int) + 1 := by rw [IntKind.wrap_i64]; omega
  have hs1 := run_slice_low (P := Tryz.prog) 23 30 Tryz.underlying23 g L cp d (by omega) (by omega) Tryz.sizeF64
  have hs2 : ∀ w, (Instr.slice 23 (.slice (some ⟨g, 0, none⟩) L cp) (some (.int .i64 (ma : Int))) (some (.int .i64 ((xa : Int) + 1))) none).run Tryz.prog w = .ok (.slice (some ⟨g, ma, none⟩) (xa + 1 - ma) (cp - ma)) w := run_slice_mid (P := Tryz.prog) 23 30 Tryz.underlying23 g L cp ma (xa + 1) (by omega) (by omega) (by omega) Tryz.sizeF64
  have HSRC := Lib.hid hsrc
  have HCUR := Lib.hid hcur
  have HSPL := Lib.hid hspl
  have HDW := Lib.hid hdW
  have HSZ := Lib.hid hsz
  have hmin : cnt = Nat.min (xa + 1 - ma) (L - d) := by rw [hcnt]; exact (Nat.min_eq_left (by omega)).symm
  have HMIN := Lib.hid hmin
  have HCNT := Lib.hid hcnt
  clear hsrc hcur hspl hdW hrW hsz hmin hcnt
  go_still_tail 16, (by kernel_rfl)
  show wpList _ _ _ _ _ W.drew
  refine wpList_copy_row (w := W.drew) rfl _ _ 23 23 rfl 30 Tryz.underlying23 Tryz.oneF64 g d (L - d) (cp - d) ⟨g, ma, none⟩ (xa + 1 - ma) (cp - ma) rfl rfl cur 30 HCUR.out (part a ma cnt) cnt (part_length _ _ _) HMIN.out HSRC.out HSZ.out (part_one _ _ _) ?_
  obtain ⟨V, hV⟩ : ∃ V, V = W.drew.setRow g (cur.toList.take d ++ (part a ma cnt ++ cur.toList.drop (d + cnt))).toArray := ⟨_, rfl⟩
  have hrV : Row V g L cp (moved a ma cnt d) := by rw [hV]; exact HSPL.out
  have hfV : Fr (fun b => b = g) W V := by rw [hV]; exact ((Fr.refl (fun b => b = g) W).drew).trans (fr_setRow W.drew g _) (fun _ _ h => h) (fun _ _ h => h)
  have hdV := HDW.out.fr hfV hpg
  rw [← hV]
  have HFV := Lib.hid hfV
  have HRV := Lib.hid hrV
  have HDV := Lib.hid hdV
  clear hV hrV hfV d0 d2 d3 d4 hs1 hs2 HSPL HSRC HMIN HCUR HSZ HDW
  obtain ⟨d0, -, d2, d3, d4⟩ := hdV.cells
  clear hdV
  by_cases hpos : 0 < sh
  · have k1 : IntKind.i64.wrap (off + (ma : Int) + sh) = off + (ma : Int) + sh := by rw [IntKind.wrap_i64]; have := H3.out; omega
    have k2 : IntKind.i64.wrap (off + (ma : Int) + sh - 1) = off + (ma : Int) + sh - 1 := by rw [IntKind.wrap_i64]; have := H3.out; omega
    have HRS := reset_any p g L cp rest T (moved a ma cnt d) c (.int .i64 (off + ma)) (.int .i64 (off + xa)) off (off + (ma : Int)) (off + (ma : Int) + sh - 1) V.drew HDV.out HRV.out hpg (by omega) (by have := H3.out; omega) b1 b2 (by omega) (by have := H3.out; omega) (by have := H3.out; omega)
    go_wp2
    go_still_tail 12, (by kernel_rfl)
    show wpList _ _ _ _ _ V.drew
    have k3 : IntKind.i64.wrap (off - sh) = off - sh := by rw [IntKind.wrap_i64]; have := H3.out; omega
    have k4 : wrap64 (off - sh) = off - sh := by unfold wrap64; have := H3.out; omega
    go_wp2_with (go_at_call 240; (with_reducible refine HRS.mono ?_); rintro e w5 ⟨rfl, hr5, hf5⟩; have HR5 := Lib.hid hr5; have HF5 := Lib.hid hf5; obtain ⟨-, -, s2, -, -⟩ := (HDV.out.drew.fr hf5 hpg).cells; have s2f := (HDV.out.drew.fr hf5 hpg).free 2; clear hr5 hf5 d0 d2 d3 d4)
    go_end0
    have hd5 := (HDV.out.drew.fr HF5.out hpg).set2 (.int .i64 (off - sh))
    refine ⟨rfl, hd5, ?_, ?_⟩
    · have hr6 : Row (w5.setCell ⟨p, 2, none⟩ (.int .i64 (off - sh))) g L cp _ := HR5.out.other hpg _
      refine hr6.ext (fun j hj => ?_)
      have e3 := H3.out
      have ec := HCNT.out
      have hz := HA.out (j : Int)
      have hz2 := HA.out ((j : Int) - sh)
      unfold zer moved
      by_cases c1 : (d : Int) ≤ (j : Int) ∧ (j : Int) < (d : Int) + cnt
      · rw [if_neg (by omega), if_pos c1]
        congr 1
        omega
      · rw [if_neg c1]
        rw [hz2 (by omega)]
        by_cases c2 : off + (ma : Int) - off ≤ (j : Int) ∧ (j : Int) ≤ off + (ma : Int) + sh - 1 - off
        · rw [if_pos c2]
        · rw [if_neg c2, hz (by omega)]
    · have f1 : Fr (fun b => b = p ∨ b = g) w V := HFW.out.trans HFV.out (fun _ _ h => h) (fun _ _ h => .inr h)
      have f2 : Fr (fun b => b = p ∨ b = g) V.drew w5 := HF5.out.mono (fun _ _ h => .inr h)
      exact ((f1.drew.trans f2 (fun _ _ h => h) (fun _ _ h => h)).setCell (fun _ => .inl rfl) _)
  · have k1 : IntKind.i64.wrap (off + (xa : Int) + sh) = off + (xa : Int) + sh := by rw [IntKind.wrap_i64]; have := H3.out; omega
    have k2 : IntKind.i64.wrap (off + (xa : Int) + sh + 1) = off + (xa : Int) + sh + 1 := by rw [IntKind.wrap_i64]; have := H3.out; omega
    have HRS := reset_any p g L cp rest T (moved a ma cnt d) c (.int .i64 (off + ma)) (.int .i64 (off + xa)) off (off + (xa : Int) + sh + 1) (off + (xa : Int)) V.drew HDV.out HRV.out hpg (by have := H3.out; omega) (by omega) b1 b2 (by have := H3.out; omega) (by omega) (by omega)
    go_wp2
    go_still_tail 12, (by kernel_rfl)
    show wpList _ _ _ _ _ V.drew
    have k3 : IntKind.i64.wrap (off - sh) = off - sh := by rw [IntKind.wrap_i64]; have := H3.out; omega
    have k4 : wrap64 (off - sh) = off - sh := by unfold wrap64; have := H3.out; omega
    go_wp2_with (go_at_call 240; (with_reducible refine HRS.mono ?_); rintro e w5 ⟨rfl, hr5, hf5⟩; have HR5 := Lib.hid hr5; have HF5 := Lib.hid hf5; obtain ⟨-, -, s2, -, -⟩ := (HDV.out.drew.fr hf5 hpg).cells; have s2f := (HDV.out.drew.fr hf5 hpg).free 2; clear hr5 hf5 d0 d2 d3 d4)
    go_end0
    have hd5 := (HDV.out.drew.fr HF5.out hpg).set2 (.int .i64 (off - sh))
    refine ⟨rfl, hd5, ?_, ?_⟩
    · have hr6 : Row (w5.setCell ⟨p, 2, none⟩ (.int .i64 (off - sh))) g L cp _ := HR5.out.other hpg _
      refine hr6.ext (fun j hj => ?_)
      have e3 := H3.out
      have ec := HCNT.out
      have hz := HA.out (j : Int)
      have hz2 := HA.out ((j : Int) - sh)
      unfold zer moved
      by_cases c1 : (d : Int) ≤ (j : Int) ∧ (j : Int) < (d : Int) + cnt
      · rw [if_neg (by omega), if_pos c1]
        congr 1
        omega
      · rw [if_neg c1]
        rw [hz2 (by omega)]
        by_cases c2 : off + (xa : Int) + sh + 1 - off ≤ (j : Int) ∧ (j : Int) ≤ off + (xa : Int) - off
        · rw [if_pos c2]
        · rw [if_neg c2, hz (by omega)]
    · have f1 : Fr (fun b => b = p ∨ b = g) w V := HFW.out.trans HFV.out (fun _ _ h => h) (fun _ _ h => .inr h)
      have f2 : Fr (fun b => b = p ∨ b = g) V.drew w5 := HF5.out.mono (fun _ _ h => .inr h)
      exact ((f1.drew.trans f2 (fun _ _ h => h) (fun _ _ h => h)).setCell (fun _ => .inl rfl) _)
end Go.Proofs.YtnmbjalojgccmaaGreat
end
/-
  centerCounts, adjust, IsEmpty, min, max walked.
-/
section
namespace Go.Proofs.YtnmbjalojgccmaaGreat
open Go.RowKit

/-- A dense store's fields and its row, which holds the counts f of the indexes from 'off' on. -/
def DenseOk (f : Int → Nat) (c : Value) (mn mx : Int) (p g L cp : Nat) (rest : List Value) (T : TypeId) (w : World) : Prop :=
  ∃ off : Int, DS w p rest T (.slice (some ⟨g, 0, none⟩) L cp) c (.int .i64 off) (.int .i64 mn) (.int .i64 mx) ∧ Row w g L cp (fun j => f (off + j)) ∧ off ≤ mn ∧ mx < off + L ∧ -1000000 ≤ off ∧ off ≤ 1000000

theorem DenseOk.drewN {f : Int → Nat} {c : Value} {mn mx : Int} {p g L cp : Nat} {rest : List Value} {T : TypeId} {w : World} (h : DenseOk f c mn mx p g L cp rest T w) (n : Nat) : DenseOk f c mn mx p g L cp rest T (w.drewN n) := h
theorem DenseOk.fr {f : Int → Nat} {c : Value} {mn mx : Int} {p g L cp : Nat} {rest : List Value} {T : TypeId} {w w' : World} {S : Nat → Prop} (h : DenseOk f c mn mx p g L cp rest T w) (hf : Fr S w w') (hp : ¬ S p) (hg : ¬ S g) : DenseOk f c mn mx p g L cp rest T w' := by
  obtain ⟨off, h1, h2, h3⟩ := h
  exact ⟨off, h1.fr hf hp, h2.fr hf hg, h3⟩

set_option maxRecDepth 100000 in
set_option maxHeartbeats 1000000 in
theorem center_any (f : Int → Nat) (c : Value) (mn mx nmn nmx : Int) (p g L cp : Nat) (rest : List Value) (T : TypeId) (w : World) (h : DenseOk f c mn mx p g L cp rest T w) (hpg : p ≠ g)
   (hf : ∀ i, i < mn ∨ mx < i → f i = 0) (h1 : mn ≤ mx) (h2 : nmn ≤ mn) (h3 : mx ≤ nmx) (h4 : nmx - nmn + 1 ≤ L) (b1 : -100000 ≤ nmn) (b2 : nmx ≤ 100000) (b3 : L ≤ 200000) :
    Calls Tryz.prog 238 #[.pointer (some ⟨p, 0, none⟩), .int .i64 nmn, .int .i64 nmx] w fun e w' => e = .returned (.tuple #[]) ∧ DenseOk f c nmn nmx p g L cp rest T w' ∧ Fr (fun b => b = p ∨ b = g) w w' := by
  obtain ⟨off, hd, hr, o1, o2, o3, o4⟩ := h
  obtain ⟨ma, hma⟩ : ∃ ma : Nat, mn = off + ma := ⟨(mn - off).toNat, by omega⟩
  obtain ⟨xa, hxa⟩ : ∃ xa : Nat, mx = off + xa := ⟨(mx - off).toNat, by omega⟩
  obtain ⟨q, hq⟩ : ∃ q : Int, q = (nmx - nmn + 1) / 2 := ⟨_, rfl⟩
  obtain ⟨l2, hl2⟩ : ∃ l2 : Int, l2 = (L : Int) / 2 := ⟨_, rfl⟩
  obtain ⟨mid, hmid⟩ : ∃ mid : Int, mid = nmn + q := ⟨_, rfl⟩
  obtain ⟨d, hd0⟩ : ∃ d : Nat, (d : Int) = mn - mid + l2 := ⟨(mn - mid + l2).toNat, by omega⟩
  obtain ⟨d0, -, d2, -, -⟩ := hd.cells
  rw [hma, hxa] at hd
  have HSH := shift_any p g L cp ma xa d rest T (fun j => f (off + j)) c off (off + l2 - mid) w.drew hd hr hpg (by omega) (by omega) (by omega) (by omega) (fun j hj => hf _ (by omega)) o3 o4 (by omega)
  have i1 : IntKind.i64.wrap (off + l2) = off + l2 := by rw [IntKind.wrap_i64]; omega
  have i2 : IntKind.i64.wrap (off + l2 - mid) = off + l2 - mid := by rw [IntKind.wrap_i64]; omega
  have i0 : IntKind.i64.wrap ((L : Int).tdiv 2) = l2 := by rw [Int.tdiv_eq_ediv_of_nonneg (by omega), IntKind.wrap_i64]; omega
  have i3 : (L : Int).tdiv 2 = l2 := by rw [Int.tdiv_eq_ediv_of_nonneg (by omega), hl2]
  have i4 : (nmx - nmn + 1) / 2 = q := hq.symm
  have i6 : IntKind.i64.wrap l2 = l2 := by rw [IntKind.wrap_i64]; omega
  have i5 : nmn + q = mid := hmid.symm
  have g1 : -100000 ≤ mid := by omega
  have g2 : mid ≤ 100000 := by omega
  have g3 : nmn ≤ nmx := by omega
  have g4 : 0 ≤ q := by omega
  have HM := Lib.hid hmid
  have HMA := Lib.hid hma
  have HXA := Lib.hid hxa
  have HQ := Lib.hid hq
  have HL2 := Lib.hid hl2
  have HD0 := Lib.hid hd0
  clear hma hxa hd0 hd hr hf hmid hq hl2
  go_enter Tryz.func238, Tryz.ntmps238
  go_wp2
  go_still_tail 14, (by kernel_rfl)
  show wpList _ _ _ _ _ w.drew
  go_wp2_with (go_at_call 239; (with_reducible refine HSH.mono ?_); rintro e w5 ⟨rfl, hd5, hr5, hf5⟩; have HD5 := Lib.hid hd5; have HR5 := Lib.hid hr5; have HF5 := Lib.hid hf5; have s3 := hd5.cells.2.2.2.1; have s4 := (hd5.set3 (.int .i64 nmn)).cells.2.2.2.2; have s3f := hd5.free 3; have s4f := (hd5.set3 (.int .i64 nmn)).free 4; clear hd5 hr5 hf5 d0 d2)
  go_end0
  refine ⟨rfl, ⟨off - (off + l2 - mid), (HD5.out.set3 _).set4 _, ?_, ?_, ?_, ?_, ?_⟩, ?_⟩
  · have hr6 : Row ((w5.setCell ⟨p, 3, none⟩ (.int .i64 nmn)).setCell ⟨p, 4, none⟩ (.int .i64 nmx)) g L cp _ := (HR5.out.other hpg _).other hpg _
    refine hr6.ext (fun j hj => ?_)
    show f (off + ((j : Int) - (off + l2 - mid))) = f (off - (off + l2 - mid) + (j : Int))
    congr 1
    omega
  · have := HM.out; have := HQ.out; have := HL2.out; omega
  · have := HM.out; have := HQ.out; have := HL2.out; omega
  · have := HM.out; have := HQ.out; have := HL2.out; omega
  · have := HM.out; have := HQ.out; have := HL2.out; omega
  · have f2 : Fr (fun b => b = p ∨ b = g) w w5 := ((Fr.refl _ w).drew).trans HF5.out (fun _ _ h => h) (fun _ _ h => h)
    exact (f2.setCell (fun _ => .inl rfl) _).setCell (fun _ => .inl rfl) _

set_option maxRecDepth 100000 in
theorem adjustD_any (f : Int → Nat) (c : Value) (mn mx nmn nmx : Int) (p g L cp : Nat) (rest : List Value) (T : TypeId) (w : World) (h : DenseOk f c mn mx p g L cp rest T w) (hpg : p ≠ g)
   (hf : ∀ i, i < mn ∨ mx < i → f i = 0) (h1 : mn ≤ mx) (h2 : nmn ≤ mn) (h3 : mx ≤ nmx) (h4 : nmx - nmn + 1 ≤ L) (b1 : -100000 ≤ nmn) (b2 : nmx ≤ 100000) (b3 : L ≤ 200000) :
    Calls Tryz.prog 234 #[.pointer (some ⟨p, 0, none⟩), .int .i64 nmn, .int .i64 nmx] w fun e w' => e = .returned (.tuple #[]) ∧ DenseOk f c nmn nmx p g L cp rest T w' ∧ Fr (fun b => b = p ∨ b = g) w w' := by
  have H := center_any f c mn mx nmn nmx p g L cp rest T w h hpg hf h1 h2 h3 h4 b1 b2 b3
  clear h hf h4
  go_enter Tryz.func234, Tryz.ntmps234
  go_wp2_with (go_at_call 238; (with_reducible refine H.mono ?_); rintro e w5 ⟨rfl, hd5, hf5⟩; have HD5 := Lib.hid hd5; have HF5 := Lib.hid hf5; clear hd5 hf5)
  go_end0
  exact ⟨rfl, HD5.out, HF5.out⟩

set_option maxRecDepth 100000 in
theorem isEmptyD_any (p : Nat) (n : Nat) (hn : n < 9007199254740992) (w : World) (h : w.cell? ⟨p, 1, none⟩ = some (.float .f64 (nf n))) :
    Calls Tryz.prog 205 #[.pointer (some ⟨p, 0, none⟩)] w fun e w' => e = .returned (.bool (n == 0)) ∧ w = w' := by
  have ho : (FloatKind.f64.format.order (nf n) 0 == some .eq) = (n == 0) := by
    have := nf_order n 0 hn (by decide)
    rw [nf_zero] at this
    rw [this]
    rcases Nat.eq_zero_or_pos n with h | h
    · subst h; rfl
    · rw [Nat.compare_eq_gt.2 h]
      have : (n == 0) = false := by simp; omega
      rw [this]; rfl
  generalize nf n = y at h ho
  generalize (n == 0) = b at ho
  go_enter Tryz.func205, Tryz.ntmps205
  go_wp2
  go_ret
  exact ⟨rfl, rfl⟩

set_option maxRecDepth 100000 in
theorem minI_any (x y : Int) (w : World) : Calls Tryz.prog 231 #[.int .i64 x, .int .i64 y] w fun e w' => e = .returned (.int .i64 (min x y)) ∧ w = w' := by
  by_cases h : x < y
  · have e : min x y = x := by omega
    rw [e]
    clear e
    go_enter Tryz.func231, Tryz.ntmps231
    go_wp2
    go_ret
    exact ⟨rfl, rfl⟩
  · have e : min x y = y := by omega
    rw [e]
    clear e
    go_enter Tryz.func231, Tryz.ntmps231
    go_wp2
    go_ret
    exact ⟨rfl, rfl⟩

set_option maxRecDepth 100000 in
theorem maxI_any (x y : Int) (w : World) : Calls Tryz.prog 232 #[.int .i64 x, .int .i64 y] w fun e w' => e = .returned (.int .i64 (max x y)) ∧ w = w' := by
  by_cases h : y < x
  · have e : max x y = x := by omega
    rw [e]
    clear e
    go_enter Tryz.func232, Tryz.ntmps232
    go_wp2
    go_ret
    exact ⟨rfl, rfl⟩
  · have e : max x y = y := by omega
    rw [e]
    clear e
    go_enter Tryz.func232, Tryz.ntmps232
    go_wp2
    go_ret
    exact ⟨rfl, rfl⟩
end Go.Proofs.YtnmbjalojgccmaaGreat
end
