/-
  The sparse store: TotalCount, MinIndex, MaxIndex.
-/
import Derived.Test.YtnmbjalojgccmaaGreatQK
import Derived.Test.YtnmbjalojgccmaaGreatQP
import Derived.Test.YtnmbjalojgccmaaGreatQQ
import Derived.Test.YtnmbjalojgccmaaGreatQG
section
namespace Go.Proofs.YtnmbjalojgccmaaGreat
open Go.RowKit Go.Maps

/-- A row of indexes lies there. -/
def LieI (w : World) (ar : Option Addr) (zs : List Int) : Prop := zs = [] ∨ ∃ g, ar = some ⟨g, 0, none⟩ ∧ ∀ k, (h : k < zs.length) → w.cell? ⟨g, k, none⟩ = some (.int .i64 zs[k])

theorem lieI_of {w : World} {ar : Option Addr} {cr : Nat} {zs : List Int} (h : w.ownsRow 0 3 1 (.slice ar zs.length cr) zs.length (zs.map (Value.int .i64))) : LieI w ar zs ∧ ∀ g, ar = some ⟨g, 0, none⟩ → g < w.heap.size := by
  rcases id h.2 with ⟨hv, hl⟩ | ⟨g, cap, cur, hv, hb, hg, hn, hmx, hsz, ht⟩
  · obtain ⟨rfl, hz0, rfl⟩ : ar = none ∧ zs.length = 0 ∧ cr = 0 := by simpa using hv
    exact ⟨.inl (List.eq_nil_of_length_eq_zero hz0), (fun g e => by cases e)⟩
  · obtain ⟨rfl, rfl⟩ : ar = some ⟨g, 0, none⟩ ∧ cr = cap := by simpa using hv
    refine ⟨.inr ⟨g, rfl, fun k hk => ?_⟩, fun g' e => by cases e; exact lt_of_block hg⟩
    have h2 := World.ownsRow.cells h (g := g) rfl k (.int .i64 zs[k]) (by rw [List.getElem?_map, List.getElem?_eq_getElem hk]; rfl)
    have hadd : (⟨g, 0, none⟩ : Addr).add k = ⟨g, k, none⟩ := by unfold Addr.add; split <;> simp_all
    rwa [hadd] at h2
theorem LieI.later {w w' : World} {ar : Option Addr} {zs : List Int} (h : LieI w ar zs) (hg : ∀ g, ar = some ⟨g, 0, none⟩ → g < w.heap.size) (hb : Below w.heap.size w w') : LieI w' ar zs := by
  rcases h with h | ⟨g, rfl, hc⟩
  · exact .inl h
  · exact .inr ⟨g, rfl, fun k hk => (hb.cell (hg g rfl)).trans (hc k hk)⟩

theorem grown_of_below {w w' : World} (h : Below w.heap.size w w') : w.grownBy w' none := ⟨h.1, h.2, h.3, h.size, fun k hk _ => h.5 k hk⟩

/-- The bins of sorted indexes. -/
def binsOf (f : Int → Nat) (zs : List Int) : Bins := zs.map fun i => (i, f i)
theorem binsOf_length (f : Int → Nat) (zs : List Int) : (binsOf f zs).length = zs.length := List.length_map _
theorem binsOf_get (f : Int → Nat) (zs : List Int) (k : Nat) (h : k < zs.length) : (binsOf f zs)[k]'(by rw [binsOf_length]; exact h) = (zs[k], f zs[k]) := by simp [binsOf]
theorem cnt_binsOf (f : Int → Nat) : ∀ {zs : List Int}, zs.Nodup → ∀ x, cntB (binsOf f zs) x = if x ∈ zs then f x else 0
  | [], _, _ => rfl
  | z :: t, h, x => by
    obtain ⟨h1, h2⟩ := List.nodup_cons.1 h
    show (if x = z then cntB (binsOf f t) x + f z else cntB (binsOf f t) x) = _
    rw [cnt_binsOf f h2 x]
    by_cases c : x = z
    · subst c; rw [if_pos rfl, if_neg h1, if_pos List.mem_cons_self, Nat.zero_add]
    · rw [if_neg c]
      by_cases c2 : x ∈ t
      · rw [if_pos c2, if_pos (List.mem_cons_of_mem _ c2)]
      · rw [if_neg c2, if_neg (by simp [c, c2])]
theorem binsOf_cnt {f : Int → Nat} {zs : List Int} (hd : zs.Nodup) (hm : ∀ i, i ∈ zs ↔ 0 < f i) : cntB (binsOf f zs) = f := by
  funext x
  rw [cnt_binsOf f hd]
  by_cases c : x ∈ zs
  · rw [if_pos c]
  · rw [if_neg c]
    exact (Nat.eq_zero_of_not_pos (fun h => c ((hm x).2 h))).symm
theorem binsOf_asc {f : Int → Nat} {zs : List Int} (hd : zs.Nodup) (hs : zs.Pairwise (· ≤ ·)) : Asc (binsOf f zs) := by
  unfold binsOf Asc
  rw [List.pairwise_map]
  exact (List.pairwise_and_iff.2 ⟨hs, hd⟩).imp (fun h => by show _ < _; have := h.1; have := h.2; omega)
theorem binsOf_pos {f : Int → Nat} {zs : List Int} (hm : ∀ i, i ∈ zs ↔ 0 < f i) : Pos (binsOf f zs) := by
  intro p hp
  obtain ⟨i, hi, rfl⟩ := List.mem_map.1 hp
  exact (hm i).1 hi
theorem binsOf_inR {f : Int → Nat} {zs : List Int} (hm : ∀ i, i ∈ zs ↔ 0 < f i) (hz : ∀ i, i < -10000 ∨ 10000 < i → f i = 0) : InR (binsOf f zs) := by
  intro p hp
  obtain ⟨i, hi, rfl⟩ := List.mem_map.1 hp
  have h1 := (hm i).1 hi
  show -10000 ≤ i ∧ i ≤ 10000
  by_cases c : -10000 ≤ i ∧ i ≤ 10000
  · exact c
  · have := hz i (by omega); omega

theorem pos_len : ∀ {l : Bins}, Pos l → l.length ≤ tot l
  | [], _ => Nat.le_refl _
  | p :: t, h => by
    have h1 := h p List.mem_cons_self
    have h2 := pos_len (l := t) (fun q hq => h q (List.mem_cons_of_mem _ hq))
    show t.length + 1 ≤ p.2 + tot t
    omega

def TotSRel (f : Int → Nat) (zs : List Int) (w wr : World) (v i : Value) : Prop :=
  ∃ k, k ≤ zs.length ∧ i = .int .i64 (k : Int) ∧ v = .float .f64 (nf (tot ((binsOf f zs).take k))) ∧ wr = w

set_option maxRecDepth 100000 in
set_option maxHeartbeats 400000 in
theorem totalS_any (f : Int → Nat) (p b k : Nat) (w : World) (h : Sparse f p b k w) (hk : k ≤ 1000000) (hz : ∀ i, i < -10000 ∨ 10000 < i → f i = 0) (hs : tot2 f < 9007199254740992) :
    Calls Tryz.prog 256 #[.pointer (some ⟨p, 0, none⟩)] w fun e w' => e = .returned (.float .f64 (nf (tot2 f))) ∧ Below w.heap.size w w' := by
  obtain ⟨hp, ⟨D, ho, hm⟩, hne⟩ := h
  have d0 := cell_of_row _ _ 0 _ _ _ hp
  have HSO := sorted_any f D b k w ho hm (Nat.le_trans ho.size_le hk)
  have hpl := lt_of_block hp
  have HO := Lib.hid ho
  have HM := Lib.hid hm
  have HZ := Lib.hid hz
  have HS := Lib.hid hs
  clear hp ho hm hz hs hne
  go_enter Tryz.func256, Tryz.ntmps256
  go_wp2_with fail
  refine HSO.mono ?_
  clear HSO
  rintro e w1 ⟨zs, ar, cr, rfl, hrow, -, hbel, hnd, hmem, hsort⟩
  obtain ⟨hlie, hgl⟩ := lieI_of hrow
  have d1 : w1.cell? ⟨p, 0, none⟩ = some (.map (some b)) := (hbel.cell hpl).trans d0
  have ho1 := HO.out.kept (grown_of_below hbel) (by simp)
  have hcnt := binsOf_cnt hnd hmem
  have htot : tot (binsOf f zs) = tot2 f := by rw [← tot2_cnt (binsOf_inR hmem HZ.out), hcnt]
  have hlen : zs.length < 9007199254740992 := by
    have h1 := pos_len (binsOf_pos hmem)
    have h2 : (binsOf f zs).length = zs.length := by unfold binsOf; rw [List.length_map]
    have := HS.out; omega
  have HB := Lib.hid hbel
  have HL := Lib.hid hlie
  have HT := Lib.hid htot
  have HO1 := Lib.hid ho1
  have HR : Hid (∀ i ∈ zs, -10000 ≤ i ∧ i ≤ 10000) := fun i hi => by
    have := binsOf_inR hmem HZ.out (i, f i) (List.mem_map.2 ⟨i, hi, rfl⟩); exact this
  clear hrow hbel hnd hmem hsort hgl hlie d0 hcnt htot ho1
  go_wp2
  go_loopw [3, 13] (fun v i wr => TotSRel f zs w1 wr v i) (fun _ i _ => zs.length - (intOf i).toNat)
  case atStart => exact ⟨0, by omega, rfl, by rw [List.take_zero, tot, nf_zero], rfl⟩
  case round =>
    obtain ⟨k, hk, rfl, rfl, rfl⟩ := hrel
    by_cases hlt : k < zs.length
    · rcases HL.out with h0 | ⟨g, rfl, hcell⟩
      · rw [h0] at hlt; simp at hlt
      have c0 := hcell k hlt
      have hkb : k < (binsOf f zs).length := by unfold binsOf; rw [List.length_map]; exact hlt
      have hat := binsOf_get f zs k hlt
      have hsu := tot_succ (binsOf f zs) k hkb
      rw [hat] at hsu
      have hadd := fun w : World => run_float_arith (P := Tryz.prog) w .add 30 .f64 _ _ _ (nf_add (tot ((binsOf f zs).take k)) (f zs[k]) (by have := tot_take (binsOf f zs) (k + 1); have := HT.out; have := HS.out; omega))
      rw [← show _ = tot ((binsOf f zs).take k) + f zs[k] from hsu] at hadd
      have hr := HR.out zs[k] (List.getElem_mem hlt)
      have hlook := look_run HO1.out HM.out zs[k] (by omega) (by omega)
      obtain ⟨y, hy⟩ : ∃ y, y = nf (f zs[k]) := ⟨_, rfl⟩
      obtain ⟨x, hx⟩ : ∃ x, x = zs[k] := ⟨_, rfl⟩
      rw [← hy] at hlook hadd
      rw [← hx] at hlook c0
      clear hy hx hat hsu hcell hr
      go_wp2
      go_roundw
      case rel => exact ⟨k + 1, by omega, by go_num, rfl, rfl⟩
      case measure => simp [intOf]; omega
    · obtain rfl : k = zs.length := by omega
      clear hlt
      go_wp2
      go_ret
      exact ⟨by rw [← HT.out, List.take_of_length_le (by unfold binsOf; rw [List.length_map]; exact Nat.le_refl _)]; rfl, HB.out⟩
end Go.Proofs.YtnmbjalojgccmaaGreat
end
/-
  The sparse store's ordered bins.
-/
section
namespace Go.Proofs.YtnmbjalojgccmaaGreat
open Go.RowKit Go.Maps Go.Sort Go.Shelf

/-- A bin's two cells, by its index' place. -/
def encB (f : Int → Nat) (x : Fin 20001) : List Value := [.int .i64 ((x.val : Int) - 10000), .float .f64 (nf (f ((x.val : Int) - 10000)))]

set_option maxRecDepth 100000 in
theorem closureB (f : Int → Nat) (x y : Fin 20001) (W : World) :
    Calls Tryz.prog 261 #[.agg (encB f x).toArray, .agg (encB f y).toArray] W fun e w' => e = .returned (.int .i64 ((x.val : Int) - (y.val : Int))) ∧ ∃ q os', w' = grow (W.drewN q) os' := by
  have hx := x.isLt
  have hy := y.isLt
  unfold encB
  obtain ⟨a, ha⟩ : ∃ a : Int, a = (x.val : Int) - 10000 := ⟨_, rfl⟩
  obtain ⟨b, hb⟩ : ∃ b : Int, b = (y.val : Int) - 10000 := ⟨_, rfl⟩
  have i1 : IntKind.i64.wrap (a - b) = a - b := by rw [IntKind.wrap_i64]; omega
  rw [← ha, ← hb, show (x.val : Int) - (y.val : Int) = a - b from by omega]
  generalize nf (f a) = fa
  generalize nf (f b) = fb
  clear ha hb hx hy
  go_enter Tryz.func261, Tryz.ntmps261
  go_wp2
  go_ret
  exact ⟨rfl, 0, _, by rw [alloc_eq_grow, alloc_eq_grow, grow_grow]; rfl⟩

def cfB (x y : Fin 20001) : Int := (x.val : Int) - (y.val : Int)
theorem ltB (x y : Fin 20001) : ltOf cfB x y = decide (x.val < y.val) := by
  unfold ltOf cfB
  by_cases h : x.val < y.val
  · rw [decide_eq_true h, decide_eq_true (by omega)]
  · rw [decide_eq_false h, decide_eq_false (by omega)]
theorem swoB : SWO (ltOf cfB) where
  irrefl x := by rw [ltB]; simp
  trans x y z h1 h2 := by rw [ltB] at *; simp at *; omega
  ntrans x y z h1 h2 := by rw [ltB] at *; simp at *; omega

def toF (i : Int) : Fin 20001 := ⟨(i + 10000).toNat % 20001, Nat.mod_lt _ (by decide)⟩
theorem toF_val {i : Int} (h1 : -10000 ≤ i) (h2 : i ≤ 10000) : ((toF i).val : Int) = i + 10000 := by
  show (((i + 10000).toNat % 20001 : Nat) : Int) = _
  rw [Nat.mod_eq_of_lt (by omega)]; omega
theorem encB_toF (f : Int → Nat) {i : Int} (h1 : -10000 ≤ i) (h2 : i ≤ 10000) : encB f (toF i) = [.int .i64 i, .float .f64 (nf (f i))] := by
  unfold encB
  rw [toF_val h1 h2, show i + 10000 - 10000 = i from by omega]

/-- The cells of a row of bins. -/
theorem pc_get (ps : List (Int × Nat)) (k : Nat) (h : k < ps.length) : (pc ps)[2 * k]? = some (.int .i64 ps[k].1) ∧ (pc ps)[2 * k + 1]? = some (.float .f64 ps[k].2) := by
  induction ps generalizing k with
  | nil => simp at h
  | cons p t ih =>
    cases k with
    | zero => exact ⟨rfl, rfl⟩
    | succ k =>
      have := ih k (by simpa using h)
      rw [show 2 * (k + 1) = 2 * k + 1 + 1 from by omega]
      exact this

theorem holdsB {f : Int → Nat} {zs : List Int} {w : World} {g : Nat} {cur : Array Value} {tE : TypeId} (hg : w.heap[g]? = some (.cells cur tE (0, 0))) (ht : cur.toList.take (zs.length * 2) = pc (fb (binsOf f zs))) (hr : ∀ i ∈ zs, -10000 ≤ i ∧ i ≤ 10000) :
    HoldsK (encB f) 2 w g 0 (zs.map toF).toArray := by
  intro t h
  rw [size_flatK] at h
  have hsz : (zs.map toF).toArray.size = zs.length := by simp
  rw [hsz] at h
  refine ⟨?_, frozen_of_row w g _ cur _ hg⟩
  rw [get_flatK _ _ _ _ (by rw [hsz]; exact h)]
  have hk : t / 2 < zs.length := by omega
  have hin := hr zs[t / 2] (List.getElem_mem hk)
  have e1 : (zs.map toF).toArray[t / 2]! = toF zs[t / 2] := by
    rw [getElem!_pos _ _ (by rw [hsz]; exact hk)]; simp
  have hpl : t / 2 < (fb (binsOf f zs)).length := by rw [fb_length, binsOf_length]; exact hk
  obtain ⟨c0, c1⟩ := pc_get (fb (binsOf f zs)) (t / 2) hpl
  have e2 : (fb (binsOf f zs))[t / 2] = (zs[t / 2], nf (f zs[t / 2])) := by rw [fb_get]; simp [binsOf]
  rw [e2] at c0 c1
  rw [e1, encB_toF f hin.1 hin.2]
  have hcell : ∀ v, (pc (fb (binsOf f zs)))[t]? = some v → w.cell? ⟨g, 0 + t, none⟩ = some v := by
    intro v hv
    rw [← ht, List.getElem?_take_of_lt h, Array.getElem?_toList] at hv
    rw [Nat.zero_add, ← hv]
    exact cell_of_row w g t cur tE _ hg
  rcases Nat.mod_two_eq_zero_or_one t with h2 | h2
  · rw [show 2 * (t / 2) = t from by omega] at c0
    rw [h2]
    exact hcell _ c0
  · rw [show 2 * (t / 2) + 1 = t from by omega] at c1
    rw [h2]
    exact hcell _ c1

/-- SortFunc of bins that are sorted already. -/
theorem sortB_any (f : Int → Nat) (zs : List Int) (ar : Option Addr) (cr : Nat) (w : World) (hown : w.ownsRow 0 145 2 (.slice ar zs.length cr) zs.length (pc (fb (binsOf f zs)))) (hr : ∀ i ∈ zs, -10000 ≤ i ∧ i ≤ 10000) (hs : zs.Pairwise (· ≤ ·)) (hl : zs.length < 1000000000) :
    Calls Tryz.prog 260 #[.slice ar zs.length cr, .func (.func 261) #[] #[]] w fun e w' => e = .returned (.tuple #[]) ∧ Below w.heap.size w w' := by
  rcases id hown.2 with ⟨hv, hl0⟩ | ⟨g, cap, cur, hv, hb, hg, hn, hmx, hsz, ht⟩
  · obtain ⟨rfl, hz0, rfl⟩ : ar = none ∧ zs.length = 0 ∧ cr = 0 := by simpa using hv
    rw [hz0]
    exact (AnyF.slices_SortFunc_none Tryz.sortBins none 0 _ w).mono fun e w' h => ⟨h.1, by rw [h.2]; exact Below.refl _ _⟩
  · obtain ⟨rfl, rfl⟩ : ar = some ⟨g, 0, none⟩ ∧ cr = cap := by simpa using hv
    have hH := holdsB hg ht hr
    have hd : (zs.map toF).toArray.size = zs.length := by simp
    have eg : ∀ args w, (callFunc 261 args).run Tryz.prog w = .ok (.enter 261 args) w := enters_of Tryz.func261 (by kernel_rfl) rfl
    have h := AnyQ.slices_SortFunc_total Tryz.sortBins 2 Tryz.isAgg145 Tryz.sizeOf145 (encB f) (fun _ => rfl) (fun x v hv => by simp [encB] at hv; rcases hv with rfl | rfl <;> rfl) cfB swoB 261 #[] g 0 cr (zs.map toF).toArray w eg (fun _ _ _ _ x y => closureB f x y _) hH (lt_of_block hg) (by rw [hd]; omega) (fun x y h1 h2 => by rw [ltB] at h1 h2; simp at h1 h2; exact Fin.ext (by omega))
    rw [hd] at h
    refine h.mono fun e w' h => ⟨h.1, ?_⟩
    obtain ⟨n, os, rfl⟩ := h.2
    have hsrt : ((zs.map toF).toArray.toList.mergeSort fun x y => !(ltOf cfB) y x).toArray = (zs.map toF).toArray := by
      congr 1
      refine List.mergeSort_of_pairwise ?_
      show (zs.map toF).Pairwise _
      rw [List.pairwise_map]
      refine List.Pairwise.imp_of_mem (fun {a b} ha hb hab => ?_) hs
      have h1 := toF_val (hr a ha).1 (hr a ha).2
      have h2 := toF_val (hr b hb).1 (hr b hb).2
      rw [ltB]
      simp
      omega
    rw [hsrt]
    unfold sortWorldK
    rw [putRowK_self _ _ (Sort.ahead w n) g 0 _ (holdsK_ahead _ _ w n g 0 _ hH)]
    exact ⟨rfl, rfl, rfl, by rw [size_grow]; exact Nat.le_add_right _ _, fun k hk => (heap_grow_old (Sort.ahead w n) os hk).trans rfl⟩

theorem Own2.later {e : TypeId} {w wr w7 : World} {v : Value} {ps : List (Int × Nat)} (h : Own2 e w wr v ps) (hb : Below wr.heap.size wr w7) : Own2 e w w7 v ps := by
  refine ⟨⟨(Fr.of_below hb).owns h.1.1 (fun k hk => ?_), h.1.2⟩, h.2.trans (hb.mono h.2.size)⟩
  rcases h.1.1.2 with ⟨h1, _⟩ | ⟨g, cap, cur, hv, _, hg, _⟩
  · rw [h1] at hk; simp [Value.ownBlock] at hk
  · rw [hv] at hk; cases hk; exact Nat.not_le.2 (lt_of_block hg)

def OrdRel (f : Int → Nat) (zs : List Int) (w w2 wr : World) (v i : Value) : Prop :=
  ∃ (k : Nat) (ar : Option Addr) (cr : Nat), k ≤ zs.length ∧ i = .int .i64 (k : Int) ∧ v = .slice ar k cr ∧ Own2 145 w wr v (fb (binsOf f (zs.take k))) ∧
    (∀ q, v.ownBlock = some q → q = w.heap.size ∨ w2.heap.size ≤ q) ∧ Fr (fun q => q = w.heap.size) w2 wr

/-- The bins of sorted indexes, in a new row. -/
def GivesB (f : Int → Nat) (w : World) (e : Ending) (w' : World) : Prop :=
  ∃ zs : List Int, zs.Nodup ∧ (∀ i, i ∈ zs ↔ 0 < f i) ∧ zs.Pairwise (· ≤ ·) ∧ GivesP 145 (fb (binsOf f zs)) w e w'

set_option maxRecDepth 100000 in
set_option maxHeartbeats 400000 in
theorem ordered_any (f : Int → Nat) (p b k : Nat) (w : World) (h : Sparse f p b k w) (hk : k ≤ 1000000) (hz : ∀ i, i < -10000 ∨ 10000 < i → f i = 0) (hs : tot2 f < 1000000000) :
    Calls Tryz.prog 257 #[.pointer (some ⟨p, 0, none⟩)] w fun e w' => GivesB f w e w' := by
  obtain ⟨hp, ⟨D, ho, hm⟩, hne⟩ := h
  have d0 := cell_of_row _ _ 0 _ _ _ hp
  have hpl := lt_of_block hp
  have hbw := ho.lt
  have hsz := ho.size_le
  obtain ⟨i0, hi, hz0, hz1, hz2⟩ := info_parts Tryz.infoStB
  obtain ⟨w1, hmk, hrow1, hgr1⟩ := run_make_own (P := Tryz.prog) w 0 142 145 i0 _ 2 Tryz.underlying142 hi hz0 hz1 .i64 .i64 (Maps.size D) (by rw [hz2]; omega) (by unfold maxLen; omega) (Nat.zero_le _)
  have d1 : w1.cell? ⟨p, 0, none⟩ = some (.map (some b)) := by
    have h1 : w1.heap[p]? = w.heap[p]? := hgr1.block p hpl (by simp)
    exact cell_of_row _ _ 0 _ _ _ (h1.trans hp)
  have ho1 := ho.kept hgr1 (by simp)
  have HSO := sorted_any f D b k w1 ho1 hm (Nat.le_trans hsz hk)
  have HO1 := Lib.hid ho1
  have HM := Lib.hid hm
  have HZ := Lib.hid hz
  have HS := Lib.hid hs
  have HR1 := Lib.hid hrow1
  have HG1 := Lib.hid hgr1
  have hpl1 : p < w1.heap.size := Nat.lt_of_lt_of_le hpl hgr1.size
  clear hp hm hz hs hne ho1 hrow1 hgr1 hi hz0 hz1 hz2
  go_enter Tryz.func257, Tryz.ntmps257
  go_wp2_with (at_len; refine wpList_len_own _ rfl _ 172 rfl 3 30 Tryz.underlying172 cntR b k D rfl ho ?_)
  go_wp2_with fail
  clear ho d0 hmk
  refine HSO.mono ?_
  clear HSO
  rintro e w2 ⟨zs, ar, cr, rfl, hrow, hbase, hbel, hnd, hmem, hsort⟩
  obtain ⟨hlie, hgl⟩ := lieI_of hrow
  have hin := fun i hi => binsOf_inR hmem HZ.out (i, f i) (List.mem_map.2 ⟨i, hi, rfl⟩)
  have hlen : zs.length < 1000000000 := by
    have h1 := pos_len (binsOf_pos hmem)
    rw [binsOf_length, ← tot2_cnt (binsOf_inR hmem HZ.out), binsOf_cnt hnd hmem] at h1
    have := HS.out; omega
  have d2 : w2.cell? ⟨p, 0, none⟩ = some (.map (some b)) := (hbel.cell hpl1).trans d1
  have ho2 := HO1.out.kept (grown_of_below hbel) (by simp)
  have HO2 := Lib.hid ho2
  have HL := Lib.hid hlie
  have HIN : Hid (∀ i ∈ zs, -10000 ≤ i ∧ i ≤ 10000) := hin
  have HND := Lib.hid hnd
  have HMEM := Lib.hid hmem
  have HSRT := Lib.hid hsort
  have hw1 : w.heap.size < w1.heap.size := by
    rcases HR1.out.2 with ⟨h1, _⟩ | ⟨g, cap, cur, hv, _, hg, _⟩
    · cases h1
    · cases hv; exact lt_of_block hg
  have hown2 : Own2 145 w w2 (.slice (some ⟨w.heap.size, 0, none⟩) 0 (Maps.size D)) [] :=
    ⟨⟨(Fr.of_below hbel).owns HR1.out (fun k hk => by cases hk; exact Nat.not_le.2 hw1), fun k hk => by cases hk; exact Nat.le_refl _⟩, ((Below.refl _ w).grown HG1.out (Nat.le_refl _) (fun k hk => by cases hk)).trans (hbel.mono HG1.out.size)⟩
  have hidx : ∀ g, ar = some ⟨g, 0, none⟩ → g < w2.heap.size ∧ g ≠ w.heap.size := fun g e => by
    subst e
    have := hbase g rfl
    exact ⟨hgl g rfl, by omega⟩
  have HIDX := Lib.hid hidx
  have hpw2 : p < w2.heap.size := Nat.lt_of_lt_of_le hpl1 hbel.size
  have hpne : p ≠ w.heap.size := by omega
  have hbne : b ≠ w.heap.size := by omega
  have hsize2 : w.heap.size ≤ w2.heap.size := hown2.2.size
  have HD2 := Lib.hid d2
  have HOWN := Lib.hid hown2
  clear hrow hbel hnd hmem hsort hgl hlie d1 d2 ho2 hin hown2 hbase HO1 hidx hw1
  go_wp2
  go_loopw [3, 19] (fun v i wr => OrdRel f zs w w2 wr v i) (fun _ i _ => zs.length - (intOf i).toNat)
  case atStart => exact ⟨0, _, _, Nat.zero_le _, by go_num, rfl, HOWN.out, (fun q hq => by cases hq; exact .inl rfl), Fr.refl _ _⟩
  case round =>
    obtain ⟨k, ao, co, hk, rfl, rfl, hown, hob, hfr⟩ := hrel
    by_cases hlt : k < zs.length
    · rcases HL.out with h0 | ⟨g, rfl, hcell⟩
      · rw [h0] at hlt; simp at hlt
      obtain ⟨hg1, hg2⟩ := HIDX.out g rfl
      have c0 : wr.cell? ⟨g, k, none⟩ = some (.int .i64 zs[k]) := hfr.cell (hcell k hlt) hg2
      have dr : wr.cell? ⟨p, 0, none⟩ = some (.map (some b)) := hfr.cell HD2.out hpne
      have hor : wr.ownsMap Tryz.prog 3 cntR b _ D := HO2.out.kept (row := some w.heap.size) ⟨hfr.os, hfr.tape, hfr.output, hfr.size, fun q hq hne => hfr.block q hq (fun e => hne (by rw [e]))⟩ (by simpa using hbne)
      have hr := HIN.out zs[k] (List.getElem_mem hlt)
      have hlook := look_run hor HM.out zs[k] (by omega) (by omega)
      have hst : fb (binsOf f (zs.take (k + 1))) = fb (binsOf f (zs.take k)) ++ [(zs[k], nf (f zs[k]))] := by
        rw [List.take_succ_eq_append_getElem hlt]; unfold binsOf; rw [List.map_append, fb_append]; rfl
      have HST := Lib.hid hst
      obtain ⟨y, hy⟩ : ∃ y, y = nf (f zs[k]) := ⟨_, rfl⟩
      obtain ⟨x, hx⟩ : ∃ x, x = zs[k] := ⟨_, rfl⟩
      rw [← hx] at HST
      have HST' : Hid (fb (binsOf f (zs.take (k + 1))) = fb (binsOf f (zs.take k)) ++ [(x, y)]) := by rw [hy, hx]; exact hst
      rw [← hy] at hlook
      rw [← hx] at hlook c0
      have ho1 := hown.1.1
      have hlk : (fb (binsOf f (zs.take k))).length = k := by rw [fb_length, binsOf_length, List.length_take]; omega
      rw [hlk] at ho1
      have HOW := Lib.hid hown
      have HOB := Lib.hid hob
      have HFR := Lib.hid hfr
      have HLK := Lib.hid hlk
      clear hy hx hst HST hcell hr hown hob hfr hlk hor
      go_wp2_with (at_builtin; refine wpList_append_pair wr wr.heap.size rfl x y rfl _ _ 142 145 rfl (.agg #[.int .i64 0, .float .f64 0]) 16 Tryz.underlying142 Tryz.infoStB rfl (.slice ao k co) k (fb (binsOf f (zs.take k))) rfl ho1 rfl (by omega) (by decide) ?_; intro ao1 cp1 w3 hown' hgrow hblk)
      have hstp := HOW.out.step (o := .cells #[.int .i64 x, .float .f64 y] 145) (by rw [HLK.out]; exact hown') hgrow hblk
      have HSTP := Lib.hid hstp
      have HGR := Lib.hid hgrow
      have HBK := Lib.hid hblk
      clear hstp hown' hgrow hblk ho1 c0 dr hlook
      go_wp2
      go_roundw
      case rel =>
        refine ⟨k + 1, ao1, cp1, by omega, by go_num, rfl, ?_, ?_, ?_⟩
        · rw [HST'.out]; exact HSTP.out
        · intro q hq
          rcases HBK.out with h | h
          · exact HOB.out q (by rw [← h]; exact hq)
          · have h2 : some q = some (wr.heap.size + 1) := by rw [← hq]; exact h
            have := Option.some.inj h2
            have := HFR.out.size
            right; omega
        · refine (HFR.out.alloc _).grown HGR.out (fun q hq hlt => ?_)
          rcases HOB.out q hq with h | h
          · exact h
          · omega
      case measure => simp [intOf]; omega
    · obtain rfl : k = zs.length := by omega
      clear hlt
      have ho1 := hown.1.1
      have hlk : (fb (binsOf f (zs.take zs.length))).length = zs.length := by rw [fb_length, binsOf_length, List.length_take]; omega
      rw [hlk, List.take_length] at ho1
      have HSF := sortB_any f zs ao co wr ho1 HIN.out HSRT.out (by omega)
      have hbig := hown.2
      have hob2 := hown.1.2
      have HOW := Lib.hid hown
      clear hown hob hfr ho1 hlk
      go_wp2_with (go_at_call 260; (with_reducible refine HSF.mono ?_); rintro e w7 ⟨rfl, hb7⟩)
      go_ret
      have h2 := HOW.out.later hb7
      rw [List.take_length] at h2
      have hl2 : (fb (binsOf f zs)).length = zs.length := by rw [fb_length, binsOf_length]
      exact ⟨zs, HND.out, HMEM.out, HSRT.out, ao, co, by rw [hl2]; rfl, by rw [hl2]; exact h2⟩
end Go.Proofs.YtnmbjalojgccmaaGreat
end
