/-
  The sparse store: AddWithCount, IsEmpty, a new one.
-/
import Derived.Test.YtnmbjalojgccmaaGreatQG
import Derived.Maps.OwnOps
import Derived.Maps.OwnSet
import Derived.Maps.RangeWalk
import Derived.Sort.KeysCollected
import Derived.Test.YtnmbjalojgccmaaGreatQJ
import Derived.Sort.OwnSortedInts
section
namespace Go.Proofs.YtnmbjalojgccmaaGreat
open Go.RowKit Go.Maps

/-- How a count reads (a name for it alone: the map never leaves the call). -/
def cntR : Value → Option (DataW Unit × List MemPlace)
  | .float .f64 b => some (.lit (.int .u64 (b : Int)), [])
  | _ => none
theorem cntR_inv {v : Value} {z : DataW Unit × List MemPlace} (h : cntR v = some z) : ∃ b : Nat, v = .float .f64 b ∧ z = (.lit (.int .u64 (b : Int)), []) := by
  unfold cntR at h
  split at h
  · cases h; exact ⟨_, rfl, rfl⟩
  · cases h

theorem Tryz.keyed : Keyed Tryz.prog 3 := int_keyed Tryz.underlying3
theorem key_int {i : Int} (h1 : -1000000 ≤ i) (h2 : i ≤ 1000000) : keyOf Tryz.prog 3 (.int .i64 i) = some (.int .i64 i) :=
  keyOf_int_mk Tryz.underlying3 (WalkArith.wf_i64 (by omega))

/-- The map holds the counts f. -/
structure MapIs (f : Int → Nat) (D : DataW Unit) : Prop where
  isMap : IsMap D
  has : ∀ i, Maps.has D (.int .i64 i) = decide (0 < f i)
  at_ : ∀ i, 0 < f i → ∀ z, D.atKey (.int .i64 i) z = .lit (.int .u64 ((nf (f i) : Nat) : Int))

/-- A sparse store in block p, its map in block b. -/
structure Sparse (f : Int → Nat) (p b k : Nat) (w : World) : Prop where
  ptr : w.heap[p]? = some (.cells #[.map (some b)] 174 (0, 0))
  own : ∃ D, w.ownsMap Tryz.prog 3 cntR b k D ∧ MapIs f D
  ne : p ≠ b

theorem MapIs.start : MapIs (fun _ => 0) (.map [] : DataW Unit) where
  isMap := isMap_empty
  has := fun _ => rfl
  at_ := fun _ h => absurd h (Nat.lt_irrefl _)

theorem MapIs.put {f : Int → Nat} {D : DataW Unit} (h : MapIs f D) (i : Int) (c : Nat) (hc : 0 < c) : MapIs (addAt f i c) (D.put (.int .i64 i) (.lit (.int .u64 ((nf (f i + c) : Nat) : Int)))) where
  isMap := h.isMap.put _ _
  has := fun j => by
    unfold addAt
    by_cases hj : j = i
    · subst hj
      rw [has_put_same h.isMap (show WideAt.IsKeyLit (.int .i64 j) from trivial), if_pos rfl, decide_eq_true (by omega)]
    · rw [has_put_other (by intro e; cases e; exact hj rfl), if_neg hj, h.has]
  at_ := fun j hp z => by
    unfold addAt at hp ⊢
    by_cases hj : j = i
    · subst hj
      rw [atKey_put_same h.isMap (show WideAt.IsKeyLit (.int .i64 j) from trivial), if_pos rfl]
    · rw [if_neg hj] at hp ⊢
      rw [atKey_put_other (by intro e; cases e; exact hj rfl), h.at_ j hp]

theorem Tryz.zeroF (w : World) : (zeroValue 30).run Tryz.prog w = .ok (.float .f64 0) w := by kernel_rfl

/-- A look-up in the map. -/
theorem look_run {f : Int → Nat} {D : DataW Unit} {b k : Nat} {w : World} (ho : w.ownsMap Tryz.prog 3 cntR b k D) (hm : MapIs f D) (i : Int) (h1 : -1000000 ≤ i) (h2 : i ≤ 1000000) :
    (Instr.lookup 172 (.map (some b)) (.int .i64 i) false).run Tryz.prog w = .ok (.float .f64 (nf (f i))) w := by
  obtain ⟨v, ps, hr, hv⟩ := ho.lookup Tryz.keyed Tryz.underlying172 (Tryz.zeroF w) (zd := .lit (.int .u64 0)) (zp := []) rfl (key_int h1 h2)
  obtain ⟨c, rfl, hc⟩ := cntR_inv hv
  rw [hr]
  have e : c = nf (f i) := by
    by_cases hp : 0 < f i
    · rw [hm.at_ i hp] at hc
      simp at hc
      omega
    · rw [atKey_of_not_has (by rw [hm.has, decide_eq_false hp])] at hc
      simp at hc
      rw [show f i = 0 from by omega, nf_zero]
      omega
  rw [e]

/-- Behind a sparse store's change. -/
def SparseTo (f : Int → Nat) (p b k : Nat) (w : World) (e : Ending) (w' : World) : Prop := e = .returned (.tuple #[]) ∧ Sparse f p b k w' ∧ Fr (fun x => x = b) w w'

set_option maxRecDepth 100000 in
set_option maxHeartbeats 400000 in
theorem addS_any (f : Int → Nat) (p b k : Nat) (i : Int) (c : Nat) (w : World) (h : Sparse f p b k w) (hc0 : 0 < c) (hs : f i + c < 9007199254740992) (hk : k < 1000000) (h1 : -1000000 ≤ i) (h2 : i ≤ 1000000) :
    Calls Tryz.prog 243 #[.pointer (some ⟨p, 0, none⟩), .int .i64 i, .float .f64 (nf c)] w fun e w' => SparseTo (addAt f i c) p b (k + 1) w e w' := by
  obtain ⟨hp, ⟨D, ho, hm⟩, hne⟩ := h
  have d0 := cell_of_row _ _ 0 _ _ _ hp
  have hlook := look_run ho hm i h1 h2
  have hz := nf_ne_zero c hc0 (by omega)
  have hadd := fun w : World => run_float_arith (P := Tryz.prog) w .add 30 .f64 _ _ _ (nf_add (f i) c hs)
  have hput := hm.put i c hc0
  have hkey := key_int h1 h2
  obtain ⟨y, hy⟩ : ∃ y, y = nf c := ⟨_, rfl⟩
  obtain ⟨z, hzz⟩ : ∃ z, z = nf (f i + c) := ⟨_, rfl⟩
  obtain ⟨x, hx⟩ : ∃ x, x = nf (f i) := ⟨_, rfl⟩
  rw [← hzz] at hput
  rw [← hy] at hz hadd ⊢
  rw [← hx] at hlook hadd
  rw [← hzz] at hadd
  have HP := Lib.hid hp
  have HPUT := Lib.hid hput
  have HN := Lib.hid hne
  clear hp hy hput hm hne hx hzz
  go_enter Tryz.func243, Tryz.ntmps243
  go_wp2_with (at_mapUpdate; refine wpList_mapUpdate_own _ rfl _ _ _ 172 rfl 3 30 Tryz.keyed Tryz.underlying172 cntR b k D rfl ho (by unfold maxLen; omega) _ _ _ rfl rfl hkey (.lit (.int .u64 (z : Int))) [] rfl ?_; intro w1 hown1 hgrow1)
  go_end0
  refine ⟨rfl, ⟨?_, ⟨_, hown1, HPUT.out⟩, HN.out⟩, ?_⟩
  · exact (hgrow1.block p (lt_of_block HP.out) (by intro e; cases e; exact HN.out rfl)).trans HP.out
  · exact (Fr.refl _ w).grown hgrow1 (fun x hx _ => by cases hx; rfl)

set_option maxRecDepth 100000 in
theorem newS_any (w : World) : Calls Tryz.prog 77 #[] w fun e w' => ∃ p b, e = .returned (.pointer (some ⟨p, 0, none⟩)) ∧ Sparse (fun _ => 0) p b 0 w' ∧ w.heap.size ≤ p ∧ w.heap.size ≤ b ∧ Fr (fun _ => False) w w' := by
  have hmm := @run_makeMap Tryz.prog
  go_enter Tryz.func77, Tryz.ntmps77
  go_wp2
  go_ret
  refine ⟨w.heap.size + 1, w.heap.size, rfl, ⟨?_, ⟨.map [], (World.ownsMap_made w _ _ _).alloc _, MapIs.start⟩, by omega⟩, by omega, Nat.le_refl _, ((Fr.refl _ w).alloc _).alloc _⟩
  have h := heap_alloc_new (w.alloc (.map #[] 0)) (.cells #[.map (some w.heap.size)] 174)
  rw [show (w.alloc (.map #[] 0)).heap.size = w.heap.size + 1 from by simp] at h
  exact h

theorem keyOf_int_inv {key : Value} {kl : Lit} (h : keyOf Tryz.prog 3 key = some kl) : ∃ i : Int, key = .int .i64 i ∧ kl = .int .i64 i ∧ (Lit.int .i64 i).wf = true := by
  cases key <;> simp [keyOf, Tryz.underlying3, mapKey] at h
  obtain ⟨⟨h1, h2⟩, h3⟩ := h
  subst h1
  exact ⟨_, rfl, h3.symm, h2⟩

theorem size_none {f : Int → Nat} {D : DataW Unit} {b k : Nat} {w : World} (ho : w.ownsMap Tryz.prog 3 cntR b k D) (hm : MapIs f D) : Maps.size D = 0 ↔ ∀ i, f i = 0 := by
  obtain ⟨es, rfl, hk⟩ := ho.keysOf
  constructor
  · intro h i
    rw [size_eq] at h
    have : es = [] := List.eq_nil_of_length_eq_zero h
    subst this
    have h2 := hm.has i
    have h3 : Maps.has (.map [] : DataW Unit) (.int .i64 i) = false := rfl
    rw [h3] at h2
    have := of_decide_eq_false h2.symm
    omega
  · intro h
    cases es with
    | nil => rfl
    | cons p t =>
      obtain ⟨key, hkey⟩ := hk p (List.mem_cons_self ..)
      obtain ⟨i, _, hi, _⟩ := keyOf_int_inv hkey
      have h2 := hm.has i
      rw [h i, has_eq, List.any_cons, hi] at h2
      simp [Lit.sameKey] at h2

set_option maxRecDepth 100000 in
theorem isEmptyS_any (f : Int → Nat) (p b k : Nat) (w : World) (h : Sparse f p b k w) :
    Calls Tryz.prog 250 #[.pointer (some ⟨p, 0, none⟩)] w fun e w' => (∃ B, e = .returned (.bool B) ∧ (B = true ↔ ∀ i, f i = 0)) ∧ w' = w := by
  obtain ⟨hp, ⟨D, ho, hm⟩, hne⟩ := h
  have d0 := cell_of_row _ _ 0 _ _ _ hp
  have HM := Lib.hid hm
  have HO := Lib.hid ho
  clear hp hm
  go_enter Tryz.func250, Tryz.ntmps250
  go_wp2_with (at_len; refine wpList_len_own _ rfl _ 172 rfl 3 30 Tryz.underlying172 cntR b k D rfl ho ?_)
  go_ret
  refine ⟨⟨_, rfl, ?_⟩, rfl⟩
  rw [← size_none HO.out HM.out]
  simp
end Go.Proofs.YtnmbjalojgccmaaGreat
end
/-
  The sparse store's indexes, sorted.
-/
section
namespace Go.Proofs.YtnmbjalojgccmaaGreat
open Go.RowKit Go.Maps

theorem Tryz.infoInt : (Tryz.prog.info? 3).map (fun i => (i.zero, i.size, i.bytes)) = some (some (.int .i64 0), 1, 8) := by kernel_rfl

/-- The indexes met so far, of a map that holds the counts f. -/
def Met (f : Int → Nat) (left : Lit → Bool) (zs : List Int) : Prop := zs.Nodup ∧ ∀ i, i ∈ zs ↔ 0 < f i ∧ left (.int .i64 i) = false

theorem Met.start {f : Int → Nat} {D : DataW Unit} (hm : MapIs f D) : Met f (Maps.has D) [] :=
  ⟨List.nodup_nil, fun i => ⟨(fun h => by cases h), (fun h => by rw [hm.has, decide_eq_true h.1] at h; cases h.2)⟩⟩
theorem Met.step {f : Int → Nat} {left : Lit → Bool} {zs : List Int} (h : Met f left zs) {x : Int} (hx : left (.int .i64 x) = true) (hp : 0 < f x) : Met f (fun z => left z && !z.sameKey (.int .i64 x)) (zs ++ [x]) := by
  refine ⟨?_, fun i => ?_⟩
  · rw [List.nodup_append]
    refine ⟨h.1, by simp, fun a ha b hb => ?_⟩
    simp at hb; subst hb
    intro e; subst e
    have := ((h.2 a).1 ha).2
    rw [hx] at this; cases this
  · rw [List.mem_append, List.mem_singleton, h.2 i]
    by_cases hi : i = x
    · subst hi; simp [Lit.sameKey, hp]
    · have : (Lit.int .i64 i).sameKey (.int .i64 x) = false := sameKey_ne (by intro e; cases e; exact hi rfl)
      simp [this, hi]

def IdxRel (f : Int → Nat) (D : DataW Unit) (b r k : Nat) (w wr : World) (v : Value) : Prop :=
  ∃ (left : Lit → Bool) (cnt : Nat) (zs : List Int) (ar : Option Addr) (cr : Nat), v = .slice ar zs.length cr ∧ wr.ranges Tryz.prog 3 cntR b r k D left cnt ∧ zs.length + cnt ≤ Maps.size D ∧ Met f left zs ∧
    wr.ownsRow 0 3 1 (.slice ar zs.length cr) zs.length (zs.map (Value.int .i64)) ∧ (∀ g, (Value.slice ar zs.length cr).ownBlock = some g → w.heap.size + 1 ≤ g) ∧ Below w.heap.size w wr

/-- The indexes with counts, sorted, in a new row. -/
def GivesIdx (f : Int → Nat) (w : World) (e : Ending) (w' : World) : Prop :=
  ∃ (zs : List Int) (ar : Option Addr) (cr : Nat), e = .returned (.slice ar zs.length cr) ∧ w'.ownsRow 0 3 1 (.slice ar zs.length cr) zs.length (zs.map (Value.int .i64)) ∧ (∀ g, (Value.slice ar zs.length cr).ownBlock = some g → w.heap.size + 1 ≤ g) ∧ Below w.heap.size w w' ∧
    zs.Nodup ∧ (∀ i, i ∈ zs ↔ 0 < f i) ∧ zs.Pairwise (· ≤ ·)

set_option maxRecDepth 100000 in
set_option maxHeartbeats 400000 in
theorem sorted_any (f : Int → Nat) (D : DataW Unit) (b k : Nat) (w : World) (ho : w.ownsMap Tryz.prog 3 cntR b k D) (hm : MapIs f D) (hk : Maps.size D ≤ 1000000) :
    Calls Tryz.prog 258 #[.map (some b)] w fun e w' => GivesIdx f w e w' := by
  have hbl := ho.lt
  have HM := Lib.hid hm
  clear hm
  go_enter Tryz.func258, Tryz.ntmps258
  go_wp2_with (at_range; refine wpList_range_own _ rfl _ 172 rfl 3 30 Tryz.keyed Tryz.underlying172 cntR b k D rfl ho ?_; intro w0 hrg0 hg0 hs0)
  go_frame
  go_loopw [3] (fun v wr => IdxRel f D b w.heap.size k w wr v) (fun _ wr => wr.rangeLeft b w.heap.size)
  case atStart =>
    exact ⟨_, _, [], none, 0, rfl, hrg0, by simp, Met.start HM.out, World.ownsRow_nil _ _ _ _, (fun g h => by simp [Value.ownBlock] at h), (Below.refl _ _).grown hg0 (Nat.le_refl _) (fun j hj => by cases hj)⟩
  case round =>
    obtain ⟨left, cnt, zs, ar, cr, rfl, hrg, hcs, hC, hown, hbase, hnx⟩ := hrel
    have HBS := Lib.hid hbase
    clear hbase
    have HC := Lib.hid hC
    have HO := Lib.hid hown
    have HX := Lib.hid hnx
    have HG := Lib.hid hrg
    clear hC hnx
    go_wp2_with (at_next; refine wpList_next_ranges _ rfl _ rfl 3 Tryz.keyed cntR (Value.int .i64) (Value.float .f64) (fun key kl h => by obtain ⟨i, h1, _⟩ := keyOf_int_inv h; exact ⟨i, h1⟩) (fun v y h => by obtain ⟨c, h1, _⟩ := cntR_inv h; exact ⟨c, h1⟩) b w.heap.size k _ _ _ rfl hrg ?_ ?_)
    · intro hc0 hl0
      clear hrg hown
      have hset : ∀ i, i ∈ zs ↔ 0 < f i := fun i => by rw [HC.out.2 i]; simp [hl0]
      have HSET := Lib.hid hset
      clear hset
      rcases HO.out.2 with ⟨hv, hl⟩ | ⟨g, cap, cur, hv, hb, hg, hn, hmx, hsz, ht⟩
      · obtain ⟨rfl, hz0, rfl⟩ : ar = none ∧ zs.length = 0 ∧ cr = 0 := by simpa using hv
        have hzs : zs = [] := List.eq_nil_of_length_eq_zero hz0
        rw [hz0]
        have HS := fun w => Tryz.slices_Sort_int_none none 0 w
        clear hv hl
        go_wp2_with (go_at_call 262; (with_reducible refine (HS _).mono ?_); rintro e w7 ⟨rfl, rfl⟩)
        go_ret
        subst hzs
        exact ⟨[], none, 0, rfl, World.ownsRow_nil _ _ _ _, (fun g h => by simp [Value.ownBlock] at h), HX.out, List.nodup_nil, HSET.out, List.Pairwise.nil⟩
      · obtain ⟨rfl, rfl⟩ : ar = some ⟨g, 0, none⟩ ∧ cr = cap := by simpa using hv
        rw [Nat.mul_one] at ht
        have hH := holds_of_blockI hg ht
        have HS := Tryz.slices_Sort_int g 0 cr zs wr hH (lt_of_block hg) (by omega)
        have HG2 := Lib.hid hg
        have HSZ := Lib.hid hsz
        clear hg hH hsz ht HG
        go_wp2_with (go_at_call 262; (with_reducible refine HS.mono ?_); rintro e w7 ⟨rfl, nn, os, rfl⟩)
        go_ret
        have hp := List.mergeSort_perm zs (fun x y => decide (x ≤ y))
        have hrow := ownsRow_sortedI (base := 0) (n := nn) (os := os) hp.length_eq hb HG2.out hn hmx HSZ.out
        have hgr := grownBy_sortedI (w := wr) (g := g) (n := nn) (os := os) (zs.mergeSort fun x y => decide (x ≤ y)).toArray
        have hl := hp.length_eq
        refine ⟨zs.mergeSort fun x y => decide (x ≤ y), some ⟨g, 0, none⟩, cr, by rw [hl]; rfl, by rw [hl]; exact hrow, (fun k hk => HBS.out k (by rw [← hk]; rfl)), HX.out.grown hgr HX.out.size (fun j hj => by cases hj; have := HBS.out g rfl; omega), hp.nodup_iff.2 HC.out.1, fun i => by rw [hp.mem_iff]; exact HSET.out i, ?_⟩
        have h := List.pairwise_mergeSort (le := fun x y : Int => decide (x ≤ y)) (fun a b c h1 h2 => by simp at h1 h2 ⊢; omega) (fun a b => by simp; omega) zs
        exact h.imp (fun h => by simpa using h)
    · intro x c kl y y2 w1 cnt1 hkey hlx hy hat hrg1 hlt hg1 hs1 hen
      obtain ⟨i, e1, rfl, hwf⟩ := keyOf_int_inv hkey
      cases e1
      have hpx : 0 < f x := by
        have h1 := has_true_of_atKey hat
        rw [HM.out.has] at h1
        exact of_decide_eq_true h1
      have hC2 := HC.out.step hlx hpx
      have hnb : (Value.slice ar zs.length cr).ownBlock = none ∨ (Value.slice ar zs.length cr).ownBlock ≠ some w.heap.size := by
        right; intro e; have := HBS.out _ e; omega
      have hown1 := hown.kept hg1 hnb
      have HC2 := Lib.hid hC2
      have HG1 := Lib.hid hg1
      have HR1 := Lib.hid hrg1
      have HR0 := Lib.hid hrg
      have hlen : zs.length < 1000000 := by omega
      have HS1 := Lib.hid hs1
      clear hs1 hC2 hg1 hrg hrg1 hown hat hy hnb
      go_wp2_with (at_builtin; refine wpList_append_one w1 (Value.int .i64 x) rfl _ _ 32 3 rfl (.int .i64 0) 8 Tryz.underlying32 Tryz.infoInt rfl rfl (.slice ar zs.length cr) zs.length (zs.map (Value.int .i64)) rfl hown1 rfl (by omega) (by decide) ?_; intro ao1 cp1 w2 hown2 hgrow hblk)
      have hrg2 := (HR1.out.alloc (.cells #[.int .i64 x] 3)).kept hgrow (fun e => by have := HBS.out b e.symm; omega) (fun e => by have := HBS.out _ e.symm; omega)
      have HR2 := Lib.hid hrg2
      have HW2 := Lib.hid hown2
      have HGW := Lib.hid hgrow
      have HBK := Lib.hid hblk
      clear hrg2 hown2 hgrow hblk hown1 hen
      go_wp2
      go_roundw
      case rel => 
        refine ⟨_, cnt1, zs ++ [x], ao1, cp1, by rw [List.length_append]; rfl, HR2.out, by rw [List.length_append]; simp; omega, HC2.out, ?_, ?_, ?_⟩
        · have h := HW2.out
          rw [List.length_append, List.map_append]
          exact h
        · intro g hg
          rw [List.length_append] at hg
          rcases HBK.out with h | h
          · exact HBS.out g (by rw [← h, ← hg]; rfl)
          · have h2 : (Value.slice ao1 (zs.length + [x].length) cp1).ownBlock = some (w1.heap.size + 1) := by rw [← h]; rfl
            rw [hg] at h2
            have := Option.some.inj h2
            have := HS1.out
            have := HX.out.size
            omega
        · have h1 := HX.out.grown HG1.out HX.out.size (fun j hj => by cases hj; exact Nat.le_refl _)
          exact (h1.alloc h1.size _).grown HGW.out (by simp; have := h1.size; omega) (fun j hj => by have := HBS.out j hj; omega)
      case measure => rw [HR2.out.left_eq, HR0.out.left_eq]; exact hlt
end Go.Proofs.YtnmbjalojgccmaaGreat
end
