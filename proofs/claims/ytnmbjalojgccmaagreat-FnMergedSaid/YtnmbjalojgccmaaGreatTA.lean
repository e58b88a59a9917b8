/-
  What a store of a kind tells: its count, whether it is empty, its bins, its least and its greatest index.
-/
import Derived.Test.YtnmbjalojgccmaaGreatQT
import Derived.Test.YtnmbjalojgccmaaGreatQS
import Derived.Test.YtnmbjalojgccmaaGreatQV
import Derived.Deep.RegionHeld3
section
namespace Go.Proofs.YtnmbjalojgccmaaGreat
open Go.RowKit

/-- Behind a look at a store: it is as it was. -/
def Keeps {kind : Int} (K : StoreKind kind) (most : Int) (xs : Bins) (S : Nat → Prop) (p : Nat) (w w' : World) : Prop := K.St most xs S p w' ∧ Fr S w w'

/-- It hands back the bins, in a new row. -/
def TellsB (ks : Bins) (w : World) (e : Ending) (w' : World) : Prop :=
  ∃ ao c, e = .returned (.slice ao ks.length c) ∧ w'.ownsRow 0 145 2 (.slice ao ks.length c) ks.length (pc (fb ks)) ∧ ∀ k, (Value.slice ao ks.length c).ownBlock = some k → w.heap.size ≤ k

/-- Few bins, as they are compared. -/
structure Few (kind most : Int) (xs : Bins) : Prop where
  known : knownB kind most = true
  inR : InR xs
  pos : Pos xs
  tot : tot xs < 1000000000
  len : xs.length ≤ 1000

structure ToldKind {kind : Int} (K : StoreKind kind) where
  fTot : FuncId
  fEmp : FuncId
  fBin : FuncId
  fMin : FuncId
  fMax : FuncId
  mTot : ∀ p w, (method 405 K.T (.pointer (some ⟨p, 0, none⟩)) "TotalCount").run Tryz.prog w = .ok (fTot, .pointer (some ⟨p, 0, none⟩)) w
  mEmp : ∀ p w, (method 405 K.T (.pointer (some ⟨p, 0, none⟩)) "IsEmpty").run Tryz.prog w = .ok (fEmp, .pointer (some ⟨p, 0, none⟩)) w
  mBin : ∀ p w, (method 405 K.T (.pointer (some ⟨p, 0, none⟩)) "Bins").run Tryz.prog w = .ok (fBin, .pointer (some ⟨p, 0, none⟩)) w
  mMin : ∀ p w, (method 405 K.T (.pointer (some ⟨p, 0, none⟩)) "MinIndex").run Tryz.prog w = .ok (fMin, .pointer (some ⟨p, 0, none⟩)) w
  mMax : ∀ p w, (method 405 K.T (.pointer (some ⟨p, 0, none⟩)) "MaxIndex").run Tryz.prog w = .ok (fMax, .pointer (some ⟨p, 0, none⟩)) w
  eTot : ∀ args w, (callFunc fTot args).run Tryz.prog w = .ok (.enter fTot args) w
  eEmp : ∀ args w, (callFunc fEmp args).run Tryz.prog w = .ok (.enter fEmp args) w
  eBin : ∀ args w, (callFunc fBin args).run Tryz.prog w = .ok (.enter fBin args) w
  eMin : ∀ args w, (callFunc fMin args).run Tryz.prog w = .ok (.enter fMin args) w
  eMax : ∀ args w, (callFunc fMax args).run Tryz.prog w = .ok (.enter fMax args) w
  cTot : ∀ most xs S p w, K.St most xs S p w → Few kind most xs → Calls Tryz.prog fTot #[.pointer (some ⟨p, 0, none⟩)] w fun e w' => e = .returned (.float .f64 (nf (tot xs))) ∧ Keeps K most xs S p w w'
  cEmp : ∀ most xs S p w, K.St most xs S p w → Few kind most xs → Calls Tryz.prog fEmp #[.pointer (some ⟨p, 0, none⟩)] w fun e w' => e = .returned (.bool xs.isEmpty) ∧ Keeps K most xs S p w w'
  cBin : ∀ most xs S p w, K.St most xs S p w → Few kind most xs → Calls Tryz.prog fBin #[.pointer (some ⟨p, 0, none⟩)] w fun e w' => TellsB (keptB kind most xs) w e w' ∧ Keeps K most xs S p w w'
  cMin : ∀ most xs S p w, K.St most xs S p w → Few kind most xs → xs ≠ [] → Calls Tryz.prog fMin #[.pointer (some ⟨p, 0, none⟩)] w fun e w' => e = .returned (.tuple #[.int .i64 (firstI (keptB kind most xs)), .nilIface]) ∧ Keeps K most xs S p w w'
  cMax : ∀ most xs S p w, K.St most xs S p w → Few kind most xs → xs ≠ [] → Calls Tryz.prog fMax #[.pointer (some ⟨p, 0, none⟩)] w fun e w' => e = .returned (.tuple #[.int .i64 (lastI (keptB kind most xs)), .nilIface]) ∧ Keeps K most xs S p w w'
  cMinE : ∀ most S p w, K.St most [] S p w → Few kind most [] → Calls Tryz.prog fMin #[.pointer (some ⟨p, 0, none⟩)] w fun e w' => (∃ T v, e = .returned (.tuple #[.int .i64 0, .iface T v])) ∧ Keeps K most [] S p w w'
  cMaxE : ∀ most S p w, K.St most [] S p w → Few kind most [] → Calls Tryz.prog fMax #[.pointer (some ⟨p, 0, none⟩)] w fun e w' => (∃ T v, e = .returned (.tuple #[.int .i64 0, .iface T v])) ∧ Keeps K most [] S p w w'

theorem tellsB_of {ks : Bins} {w : World} {e : Ending} {w' : World} (h : GivesP 145 (fb ks) w e w') : TellsB ks w e w' ∧ Below w.heap.size w w' := by
  obtain ⟨ao, c, h1, ⟨h2, h3⟩, h4⟩ := h
  rw [fb_length] at h1 h2 h3
  exact ⟨⟨ao, c, h1, h2, h3⟩, h4⟩
theorem kept_nil (kind most : Int) : keptB kind most [] = [] := by
  unfold keptB lowB highB
  split
  · rfl
  · split
    · rfl
    · rfl
theorem tot_pos {xs : Bins} (hp : Pos xs) (h : xs ≠ []) : 0 < tot xs := by
  cases xs with
  | nil => exact absurd rfl h
  | cons p t =>
    have := hp p List.mem_cons_self
    show 0 < p.2 + tot t
    omega
theorem isEmpty_tot {xs : Bins} (hp : Pos xs) : (tot xs == 0) = xs.isEmpty := by
  cases xs with
  | nil => rfl
  | cons p t =>
    have := tot_pos hp (List.cons_ne_nil p t)
    simp; omega
end Go.Proofs.YtnmbjalojgccmaaGreat
end
/-
  The bins' own Index and Count; a block with a state whose bins grow.
-/
section
namespace Go.Proofs.YtnmbjalojgccmaaGreat
open Go.RowKit

set_option maxRecDepth 100000 in
theorem binIndex_any (x : Int) (b : Nat) (w : World) : Calls Tryz.prog 82 #[.agg #[.int .i64 x, .float .f64 b]] w fun e w' => e = .returned (.int .i64 x) ∧ Below w.heap.size w w' := by
  go_enter Tryz.func82, Tryz.ntmps82
  go_wp2
  go_ret
  exact ⟨rfl, (Below.refl _ w).alloc (Nat.le_refl _) _⟩

set_option maxRecDepth 100000 in
theorem binCount_any (x : Int) (b : Nat) (w : World) : Calls Tryz.prog 83 #[.agg #[.int .i64 x, .float .f64 b]] w fun e w' => e = .returned (.float .f64 b) ∧ Below w.heap.size w w' := by
  go_enter Tryz.func83, Tryz.ntmps83
  go_wp2
  go_ret
  exact ⟨rfl, (Below.refl _ w).alloc (Nat.le_refl _) _⟩

theorem Tryz.infoIB : (Tryz.prog.info? 62).map (fun i => (i.zero, i.size, i.bytes)) = some (some (.agg #[.int .i64 0, .float .f64 0]), 2, 16) := by kernel_rfl

theorem owns_tag2 {w : World} {e : TypeId} {v : Value} {n m : Nat} {xs : List Value} (h : w.ownsRow 0 e m v n xs) {k : Nat} (hk : v.ownBlock = some k) : ∃ cur, w.heap[k]? = some (.cells cur e (0, 0)) := by
  rcases h.2 with ⟨rfl, _⟩ | ⟨g, cap, cur, rfl, _, hg, _⟩
  · simp [Value.ownBlock] at hk
  · cases hk; exact ⟨cur, hg⟩

/-- A block with a state: its bins own their row. -/
structure StBox (w : World) (b3 : Nat) (v t e mn mx : Value) (ps : List (Int × Nat)) : Prop where
  box : w.heap[b3]? = some (.cells #[v, t, e, mn, mx] 38 (0, 0))
  row : w.ownsRow 0 62 2 v ps.length (pc ps)

theorem StBox.ne {w : World} {b3 : Nat} {v t e mn mx : Value} {ps : List (Int × Nat)} (h : StBox w b3 v t e mn mx ps) : ∀ b, v.ownBlock = some b → b ≠ b3 := fun b hb => by
  obtain ⟨_, hc⟩ := owns_tag2 h.row hb; exact tag_ne hc h.box (by decide)
theorem StBox.fr {w w' : World} {b3 : Nat} {v t e mn mx : Value} {ps : List (Int × Nat)} {S : Nat → Prop} (h : StBox w b3 v t e mn mx ps) (hf : Fr S w w') (hb : ¬ S b3) (ho : ∀ b, v.ownBlock = some b → ¬ S b) : StBox w' b3 v t e mn mx ps := ⟨hf.heap h.box hb, hf.owns h.row ho⟩
theorem StBox.later {w w' : World} {b3 : Nat} {v t e mn mx : Value} {ps : List (Int × Nat)} (h : StBox w b3 v t e mn mx ps) (hb : Below w.heap.size w w') : StBox w' b3 v t e mn mx ps :=
  h.fr (Fr.of_below hb) (Nat.not_le.2 (lt_of_block h.box)) (fun b hb2 => Nat.not_le.2 (h.row.lt b hb2).2)
theorem StBox.cells {w : World} {b3 : Nat} {v t e mn mx : Value} {ps : List (Int × Nat)} (h : StBox w b3 v t e mn mx ps) :
    w.cell? ⟨b3, 0, none⟩ = some v ∧ w.cell? ⟨b3, 1, none⟩ = some t ∧ w.cell? ⟨b3, 2, none⟩ = some e ∧ w.cell? ⟨b3, 3, none⟩ = some mn ∧ w.cell? ⟨b3, 4, none⟩ = some mx :=
  ⟨cell_of_row _ _ 0 _ _ _ h.box, cell_of_row _ _ 1 _ _ _ h.box, cell_of_row _ _ 2 _ _ _ h.box, cell_of_row _ _ 3 _ _ _ h.box, cell_of_row _ _ 4 _ _ _ h.box⟩

theorem StBox.set3 {w : World} {b3 : Nat} {v t e mn mx : Value} {ps : List (Int × Nat)} (h : StBox w b3 v t e mn mx ps) (u : Value) : StBox (w.setCell ⟨b3, 3, none⟩ u) b3 v t e u mx ps :=
  ⟨(heap_setCell_same w b3 3 _ _ u h.box).trans rfl, ownsRow_setCell_other h.row (fun e => h.ne b3 e rfl) _⟩
theorem StBox.set4 {w : World} {b3 : Nat} {v t e mn mx : Value} {ps : List (Int × Nat)} (h : StBox w b3 v t e mn mx ps) (u : Value) : StBox (w.setCell ⟨b3, 4, none⟩ u) b3 v t e mn u ps :=
  ⟨(heap_setCell_same w b3 4 _ _ u h.box).trans rfl, ownsRow_setCell_other h.row (fun e => h.ne b3 e rfl) _⟩
theorem fr_setCell (w : World) (b off : Nat) (u : Value) : Fr (fun k => k = b) w (w.setCell ⟨b, off, none⟩ u) := (show Fr (fun k => k = b) w w from Fr.refl _ w).setCell (p := ⟨b, off, none⟩) (fun _ => rfl) u

/-- One more bin, put into the state. -/
theorem StBox.push {w w3 : World} {b3 : Nat} {v v' t e mn mx : Value} {ps : List (Int × Nat)} {x : Int × Nat} {o : Obj} (h : StBox w b3 v t e mn mx ps) (hown : w3.ownsRow 0 62 2 v' (ps.length + 1) (pc (ps ++ [x]))) (hgr : (w.alloc o).grownBy w3 v.ownBlock)
   (hblk : v'.ownBlock = v.ownBlock ∨ v'.ownBlock = some (w.heap.size + 1)) :
    w3.cell? ⟨b3, 0, none⟩ = some v ∧ w3.frozen? ⟨b3, 0, none⟩ = false ∧ StBox (w3.setCell ⟨b3, 0, none⟩ v') b3 v' t e mn mx (ps ++ [x]) ∧ Fr (fun b => b = b3 ∨ v.ownBlock = some b) w (w3.setCell ⟨b3, 0, none⟩ v') := by
  have hsz : (w.alloc o).heap.size = w.heap.size + 1 := by simp
  have hbl : b3 < w.heap.size := lt_of_block h.box
  have hold : ∀ k, k < w.heap.size → v.ownBlock ≠ some k → w3.heap[k]? = w.heap[k]? := fun k hk hne => (hgr.block k (by omega) (fun e => hne e.symm)).trans (Below.heap_alloc w o k hk)
  have hb3 : w3.heap[b3]? = some (.cells #[v, t, e, mn, mx] 38 (0, 0)) := (hold b3 hbl (fun e => h.ne b3 e rfl)).trans h.box
  have hfr : Fr (fun b => b = b3 ∨ v.ownBlock = some b) w w3 := ⟨hgr.os, hgr.tape, hgr.output, by have := hgr.size; omega, fun k hk hn => hold k hk (fun e => hn (.inr e))⟩
  refine ⟨cell_of_row _ _ 0 _ _ _ hb3, frozen_of_row w3 b3 0 _ _ hb3, ⟨(heap_setCell_same w3 b3 0 _ _ v' hb3).trans rfl, ?_⟩, hfr.setCell (p := ⟨b3, 0, none⟩) (fun _ => .inl rfl) v'⟩
  rw [List.length_append]
  refine ownsRow_setCell_other hown (fun e => ?_) _
  rcases hblk with h2 | h2
  · exact h.ne b3 (h2.symm.trans e) rfl
  · rw [h2] at e
    have : w.heap.size + 1 = b3 := Option.some.inj e
    omega
end Go.Proofs.YtnmbjalojgccmaaGreat
end
/-
  A region that draws its order: its loads may be taken first though a store at its end writes what they read, where that store waits for them.
-/
section
namespace Go.Proofs.YtnmbjalojgccmaaGreat

section
variable {P : Program} {ops : Array Oper} {Q : Exit → Act → World → Prop} {md : Region.Mode} {S : World → Prop} {late : Nat → Bool}

/-- Number j waits for number i, perhaps through others. -/
def reaches (md : Region.Mode) (ops : Array Oper) : Nat → Nat → Nat → Bool
  | 0, _, _ => false
  | f + 1, j, i => match ops[j]? with
    | none => false
    | some oj => oj.after.any fun e => Region.binds md e && (e.on == i || reaches md ops f e.on i)

def Shutd (md : Region.Mode) (ops : Array Oper) (listed : Array Bool) : Prop :=
  ∀ j oj, ops[j]? = some oj → listed.getD j false = true → ∀ e ∈ oj.after, Region.binds md e = true → listed.getD e.on false = true

theorem reach_listed {listed : Array Bool} (hc : Shutd md ops listed) : ∀ (f j i : Nat), listed.getD j false = true → reaches md ops f j i = true → listed.getD i false = true
  | 0, _, _, _, h => by simp [reaches] at h
  | f + 1, j, i, hj, h => by
    unfold reaches at h
    split at h
    · cases h
    · rename_i oj hoj
      obtain ⟨e, he, hb⟩ := Array.any_eq_true'.1 h
      simp only [Bool.and_eq_true, Bool.or_eq_true, beq_iff_eq] at hb
      have h1 := hc j oj hoj hj e he hb.1
      rcases hb.2 with h2 | h2
      · rw [← h2]; exact h1
      · exact reach_listed hc f e.on i h1 h2

theorem ready_reach {listed : Array Bool} (hc : Shutd md ops listed) {f j i : Nat} (hj : j ∈ Region.ready md ops listed) (h : reaches md ops f j i = true) : listed.getD i false = true := by
  obtain ⟨_, oj, hoj, hall⟩ := mem_ready.1 hj
  cases f with
  | zero => simp [reaches] at h
  | succ f =>
    unfold reaches at h
    simp only [hoj] at h
    obtain ⟨e, he, hb⟩ := Array.any_eq_true'.1 h
    simp only [Bool.and_eq_true, Bool.or_eq_true, beq_iff_eq] at hb
    have h1 := hall e he hb.1
    rcases hb.2 with h2 | h2
    · rw [← h2]; exact h1
    · exact reach_listed hc f e.on i h1 h2

theorem Shutd.set {listed : Array Bool} {i : Nat} (hc : Shutd md ops listed) (hi : i ∈ Region.ready md ops listed) : Shutd md ops (listed.setIfInBounds i true) := by
  obtain ⟨_, oi, hoi, hall⟩ := mem_ready.1 hi
  intro j oj hj hl e he hb
  by_cases hij : i = j
  · subst hij
    have : oj = oi := Option.some.inj (hj.symm.trans hoi)
    subst this
    exact getD_set_true (hall e he hb)
  · rw [getD_set_ne false hij] at hl
    exact getD_set_true (hc j oj hj hl e he hb)

/-- Whatever order is picked; S holds behind every operation that is not late. -/
def wpAnyT (P : Program) (md : Region.Mode) (ops : Array Oper) (Q : Exit → Act → World → Prop) (S : World → Prop) (late : Nat → Bool) : Nat → Array Bool → Act → World → Prop
  | 0, listed, a, w => Region.ready md ops listed = [] ∧ Q .normal a w
  | fuel + 1, listed, a, w =>
    (Region.ready md ops listed = [] → Q .normal a w) ∧
    ∀ i ∈ Region.ready md ops listed, wpOp P ops Q i (fun a' w' => (late i = false → S w') ∧ wpAnyT P md ops Q S late fuel (listed.setIfInBounds i true) a' w') a w

theorem wpAny_of_T : ∀ (fuel : Nat) (listed : Array Bool) (a : Act) (w : World), wpAnyT P md ops Q S late fuel listed a w → wpAny P md ops Q fuel listed a w
  | 0, _, _, _, h => h
  | fuel + 1, _, _, _, h => ⟨h.1, fun i hi => wpOp_mono (fun a' w' h' => wpAny_of_T fuel _ a' w' h'.2) (h.2 i hi)⟩

theorem wpAnyT_first {i : Nat} {oi : Oper} {v : Value} (hi : ops[i]? = some oi) (hsel : ∀ (j : Nat) (o : Oper) cs b, ops[j]? = some o → o.op ≠ .select cs b)
    (hQ : ∀ c a w, Q (.panic c) (a.put oi.dst v) w → Q (.panic c) a w) (hlate : ∀ j, late j = true → ∃ f, reaches md ops f j i = true) :
    ∀ (fuel : Nat) (listed : Array Bool) (a : Act) (w : World), Shutd md ops listed →
      (∀ j oj, ops[j]? = some oj → j ≠ i → listed.getD j true = false → (∀ e ∈ oj.after, Region.binds md e = true → e.on ≠ i) → oi.apart ops oj = true) →
      i ∈ Region.ready md ops listed → YieldsIf P ops S oi v a → S w →
      wpAnyT P md ops Q S late fuel (listed.setIfInBounds i true) (a.put oi.dst v) w → wpAnyT P md ops Q S late (fuel + 1) listed a w := by
  intro fuel
  induction fuel with
  | zero =>
    intro listed a w _ _ hr hy hS H
    refine ⟨fun h => (by rw [h] at hr; cases hr), fun j hj => ?_⟩
    by_cases hji : j = i
    · subst hji; exact hy.wpOp hi hS ⟨fun _ => hS, H⟩
    · have := ready_mono hj hji
      rw [H.1] at this
      cases this
  | succ fuel ih =>
    intro listed a w hc hfree hr hy hS H
    refine ⟨fun h => (by rw [h] at hr; cases hr), fun j hj => ?_⟩
    by_cases hji : j = i
    · subst hji; exact hy.wpOp hi hS ⟨fun _ => hS, H⟩
    · have h1 := H.2 j (ready_mono hj hji)
      obtain ⟨hjun, oj, hoj, hall⟩ := mem_ready.1 hj
      have h0 := (mem_ready.1 hr).1
      have hunf : listed.getD i false = false := by
        rcases Nat.lt_or_ge i listed.size with h' | h'
        · simp [h'] at h0 ⊢; exact h0
        · simp [Array.getElem?_eq_none h'] at h0
      have hnl : late j = false := by
        cases hl : late j with
        | false => rfl
        | true =>
          obtain ⟨f, hf⟩ := hlate j hl
          have := ready_reach hc hj hf
          rw [hunf] at this; cases this
      have hnot : ∀ e ∈ oj.after, Region.binds md e = true → e.on ≠ i := fun e he hb heq => by
        have h1 := hall e he hb
        rw [heq, hunf] at h1
        cases h1
      have h2 := wpOp_putIf hoj (hfree j oj hoj hji hjun hnot) (fun cs b => hsel i oi cs b hi) (fun cs b => hsel j oj cs b hoj) hQ hy h1
      have hfree' : ∀ k ok, ops[k]? = some ok → k ≠ i → (listed.setIfInBounds j true).getD k true = false →
          (∀ e ∈ ok.after, Region.binds md e = true → e.on ≠ i) → oi.apart ops ok = true := fun k ok hk hki hun hno => by
        refine hfree k ok hk hki ?_ hno
        by_cases hjk : j = k
        · subst hjk; exact hjun
        · rw [getD_set_ne true hjk] at hun; exact hun
      refine wpOp_mono (fun a' w' h3 => ⟨h3.2.1, ih (listed.setIfInBounds j true) a' w' (hc.set hj) hfree' (ready_mono hr (Ne.symm hji)) h3.1 (h3.2.1 hnl) ?_⟩) h2
      rw [Array.setIfInBounds_comm _ _ hji]
      exact h3.2.2

/-- Which ones of a list are late: the check. -/
def lateB (md : Region.Mode) (ops : Array Oper) (ls : List Nat) (i : Nat) : Bool := ls.all fun j => reaches md ops ops.size j i

def wpT (P : Program) (md : Region.Mode) (ops : Array Oper) (Q : Exit → Act → World → Prop) (S : World → Prop) (ls : List Nat) (fuel : Nat) (listed : Array Bool) (a : Act) (w : World) : Prop :=
  Shutd md ops listed ∧ wpAnyT P md ops Q S (fun j => ls.contains j) fuel listed a w

theorem wpT_take {ls : List Nat} (i : Nat) {oi : Oper} {v : Value} {fuel : Nat} {listed : Array Bool} {a : Act} {w : World} (hi : ops[i]? = some oi)
    (hs : Region.noSelect ops = true) (hf : Region.free md ops listed i = true) (hr : (Region.ready md ops listed).contains i = true) (hl : lateB md ops ls i = true)
    (hQ : ∀ c a w, Q (.panic c) (a.put oi.dst v) w → Q (.panic c) a w) (hw : Region.wanted oi (yielded ops a.tmps) = true) (hy : ∀ w, S w → (execOp a.eval oi).run P w = .ok (.value v) w) (hS : S w) (hc : Shutd md ops listed)
    (h : Shutd md ops (listed.setIfInBounds i true) → wpAnyT P md ops Q S (fun j => ls.contains j) fuel (listed.setIfInBounds i true) (a.put oi.dst v) w) : wpAnyT P md ops Q S (fun j => ls.contains j) (fuel + 1) listed a w := by
  have hr' : i ∈ Region.ready md ops listed := by simpa using hr
  refine wpAnyT_first hi (Region.noSelect_spec hs) hQ (fun j hj => ⟨ops.size, ?_⟩) fuel listed a w hc (Region.free_spec hi hf) hr' (.inl ⟨hw, hy⟩) hS (h (hc.set hr'))
  exact List.all_eq_true.1 hl j (by simpa using hj)

theorem wpT_one {ls : List Nat} (i : Nat) {o : Oper} {fuel : Nat} {listed : Array Bool} {a : Act} {w : World} (hi : ops[i]? = some o) (hr : Region.ready md ops listed = [i]) (hc : Shutd md ops listed)
    (h : ∀ K' : Act → World → Prop, Shut (∀ a w, (ls.contains i = false → S w) → (Shutd md ops (listed.setIfInBounds i true) → wpAnyT P md ops Q S (fun j => ls.contains j) fuel (listed.setIfInBounds i true) a w) → K' a w) → if Region.wanted o (yielded ops a.tmps) = true then Oper.wp P o a w K' Q else K' (a.put o.dst undef) w) :
    wpAnyT P md ops Q S (fun j => ls.contains j) (fuel + 1) listed a w := by
  refine ⟨fun h0 => (by rw [h0] at hr; cases hr), fun j hj => ?_⟩
  have hj' := hj
  rw [hr] at hj'
  have hji : j = i := by simpa using hj'
  subst hji
  exact wpOp_step hi (fun K' hK => h K' (fun a w hS hW => hK a w ⟨hS, hW (hc.set hj)⟩))

theorem wpT_done {listed : Array Bool} {a : Act} {w : World} (hr : Region.ready md ops listed = []) (h : Q .normal a w) :
    ∀ fuel, wpAnyT P md ops Q S late fuel listed a w
  | 0 => ⟨hr, h⟩
  | _ + 1 => ⟨fun _ => h, by rw [hr]; simp⟩

theorem wpT_begin {id : Nat} {a : Act} {w : World} (S : World → Prop) (ls : List Nat) (hm : P.follows .mixedOrders = true)
    (h : Shutd .any ops (Array.replicate ops.size false) → wpAnyT P .any ops Q S (fun j => ls.contains j) ops.size (Array.replicate ops.size false) a w.drew) : (Code.region id ops true).wp P Q a w := by
  refine wp_region_any hm (wpAny_of_T _ _ _ _ (h (fun j oj _ hl => ?_)))
  exfalso
  rcases Nat.lt_or_ge j ops.size with h' | h'
  · simp [h'] at hl
  · simp [h'] at hl
end
end Go.Proofs.YtnmbjalojgccmaaGreat
end
