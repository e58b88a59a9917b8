/-
  Plain laws on worlds, no program in sight: 'Fr S w w'': outside the blocks S the world w' is as w was, and no block has gone; 'Buf': a variable that holds a slice of bytes which owns its row.
-/
import Derived.WalkKit
import Derived.WalkSpells
import Derived.WalkLawsBesides
import Derived.Lib.Hide
import Derived.Laws.BytesArg
import Derived.Test.YtnmbjalojgccmaaGreatProg
section
namespace Go.Proofs.YtnmbjalojgccmaaGreat
open Go.RowKit

/-- A store of a float. -/
@[go_sem] theorem run_store_float64 (P : Program) (w : World) (a : Addr) (m : Mode) (b : Nat) : (store a (.float .f64 b) m).run P w = stored P w a (.float .f64 b) m := run_store P w a _ m rfl

/-- Outside the blocks S the world w' is as w was. -/
structure Fr (S : Nat → Prop) (w w' : World) : Prop where
  os : w'.os = w.os
  tape : w'.tape = w.tape
  output : w'.output = w.output
  size : w.heap.size ≤ w'.heap.size
  block : ∀ k, k < w.heap.size → ¬ S k → w'.heap[k]? = w.heap[k]?

section
variable {S T U : Nat → Prop} {a b c w w' : World}

theorem Fr.refl (S : Nat → Prop) (w : World) : Fr S w w := ⟨rfl, rfl, rfl, Nat.le_refl _, fun _ _ _ => rfl⟩

theorem Fr.trans (h : Fr S a b) (k : Fr T b c) (hS : ∀ i, i < a.heap.size → S i → U i) (hT : ∀ i, i < a.heap.size → T i → U i) : Fr U a c :=
  ⟨k.os.trans h.os, k.tape.trans h.tape, k.output.trans h.output, Nat.le_trans h.size k.size,
   fun i hi hn => (k.block i (Nat.lt_of_lt_of_le hi h.size) (fun ht => hn (hT i hi ht))).trans (h.block i hi (fun hs => hn (hS i hi hs)))⟩

theorem Fr.mono (h : Fr S a b) (hS : ∀ i, i < a.heap.size → S i → U i) : Fr U a b :=
  h.trans (Fr.refl S b) hS hS

theorem Fr.alloc (h : Fr S a b) (o : Obj) : Fr S a (b.alloc o) :=
  ⟨h.os, h.tape, h.output, by have := h.size; simp; omega, fun i hi hn => (Below.heap_alloc _ _ _ (Nat.lt_of_lt_of_le hi h.size)).trans (h.block i hi hn)⟩

theorem Fr.drew (h : Fr S a b) : Fr S a b.drew := ⟨h.os, h.tape, h.output, h.size, h.block⟩
theorem Fr.drewN (h : Fr S a b) (n : Nat) : Fr S a (b.drewN n) := ⟨h.os, h.tape, h.output, h.size, h.block⟩

theorem Fr.setCell (h : Fr S a b) {p : Addr} (hp : p.block < a.heap.size → S p.block) (u : Value) : Fr S a (b.setCell p u) :=
  ⟨h.os, h.tape, h.output, by have := h.size; simp [World.setCell]; omega,
   fun i hi hn => (Below.heap_setCell _ _ _ _ (fun e => hn (by subst e; exact hp hi))).trans (h.block i hi hn)⟩

theorem Fr.grown {row : Option Nat} (h : Fr S a b) (hg : b.grownBy c row) (hr : ∀ k, row = some k → k < a.heap.size → S k) : Fr S a c :=
  ⟨hg.os.trans h.os, hg.tape.trans h.tape, hg.output.trans h.output, Nat.le_trans h.size hg.size,
   fun i hi hn => (hg.block i (Nat.lt_of_lt_of_le hi h.size) (fun e => hn (hr i e.symm hi))).trans (h.block i hi hn)⟩

theorem Fr.below {B : Nat} (h : Fr S w w') (hS : ∀ k, S k → B ≤ k) (hB : B ≤ w.heap.size) : Below B w w' :=
  ⟨h.os, h.tape, h.output, h.size, fun k hk => h.block k (by omega) (fun hs => by have := hS k hs; omega)⟩

theorem Fr.of_below {B : Nat} (h : Below B w w') : Fr (fun k => B ≤ k) w w' :=
  ⟨h.os, h.tape, h.output, h.size, fun k _ hn => h.block k (by omega)⟩

theorem Fr.cell (h : Fr S w w') {p : Addr} {v : Value} (hc : w.cell? p = some v) (hp : ¬ S p.block) : w'.cell? p = some v :=
  (World.cell?_of_block (h.block p.block (World.block_lt_of_cell? w p hc) hp)).trans hc

theorem Fr.heap (h : Fr S w w') {k : Nat} {o : Obj} (hc : w.heap[k]? = some o) (hp : ¬ S k) : w'.heap[k]? = some o :=
  (h.block k (lt_of_block hc) hp).trans hc

theorem Fr.owns {base : Nat} {e : TypeId} {size : Nat} {v : Value} {n : Nat} {xs : List Value} (h : Fr S w w') (hw : w.ownsRow base e size v n xs) (hp : ∀ k, v.ownBlock = some k → ¬ S k) : w'.ownsRow base e size v n xs := by
  obtain ⟨h1, h2⟩ := hw
  refine ⟨h1, ?_⟩
  rcases h2 with h2 | ⟨g, cap, cur, hv, hg, hh, r⟩
  · exact Or.inl h2
  · subst hv
    exact Or.inr ⟨g, cap, cur, rfl, hg, h.heap hh (hp g rfl), r⟩
end

/-- What is owned from no number on: the same row, whatever the base. -/
theorem owns_zero {w : World} {base : Nat} {e : TypeId} {size : Nat} {v : Value} {n : Nat} {xs : List Value} (h : w.ownsRow base e size v n xs) : w.ownsRow 0 e size v n xs := by
  obtain ⟨h1, h2⟩ := h
  refine ⟨h1, ?_⟩
  rcases h2 with h2 | ⟨g, cap, cur, hv, hg, r⟩
  · exact Or.inl h2
  · exact Or.inr ⟨g, cap, cur, hv, Nat.zero_le _, r⟩

section
variable {P : Program} (w : World)
/-- The kit's law on an append to a row of the call's own, and one thing more: the row's block is the old one or the newest. -/
theorem run_append_own2 (t ty e : TypeId) (i : TypeInfo) (z : Value) (size bytes : Nat) (ht : P.underlying t = some (.slice e)) (hi : P.info? e = some i) (hz : i.zero = some z)
    (hsize : i.size = size) (hby : i.bytes = bytes) (hzs : z.cells.size = size) (hsz : 0 < size)
    (v : Value) (n : Nat) (xs : List Value) (hown : w.ownsRow 0 e size v n xs)
    (a : Addr) (m c : Nat) (news : List Value) (hl : news.length = m * size) (hnews : ∀ j u, news[j]? = some u → w.cell? (a.add j) = some u) (h1 : ∀ u ∈ news, u.oneCell' = true)
    (h63 : n + m ≤ maxLen) (hbytes : (n + m) * bytes ≤ 140737488355328) :
    ∃ v' w', (Builtin.append_ #[t, t] ty #[v, .slice (some a) m c]).run P w = .ok v' w' ∧ w'.ownsRow 0 e size v' (n + m) (xs ++ news) ∧ w.grownBy w' v.ownBlock ∧
      (v'.ownBlock = v.ownBlock ∨ v'.ownBlock = some w.heap.size) := by
  obtain ⟨v', w', hr, ho, hg, _⟩ := run_append_own (P := P) w 0 t ty e i z size bytes ht hi hz hsize hby hzs hsz v n xs hown a m c news hl hnews h1 h63 hbytes (Nat.zero_le _)
  refine ⟨v', w', hr, ho, hg, ?_⟩
  have h63' : n + m ≤ 9223372036854775807 := by simp only [maxLen] at h63; omega
  subst hsize
  subst hby
  rcases hown.2 with ⟨rfl, rfl⟩ | ⟨g, cap, cur, rfl, hbg, hgg, hnc, hcm, hcs, htake⟩
  · by_cases hm : m = 0
    · subst hm
      have hn : news = [] := List.eq_nil_of_length_eq_zero (by simpa using hl)
      subst hn
      have hr2 : (Builtin.append_ #[t, t] ty #[.slice none 0 0, .slice (some a) 0 c]).run P w = .ok (.slice none 0 0) w := by
        simp [Builtin.append_, run_underlying ht, sizeOf, typeInfo, hi, Builtin.lenOf, Builtin.firstCells, loadCells, loadCellsFrom]
      rw [hr2] at hr
      cases hr
      exact .inl rfl
    · have hr2 := run_append_nil (P := P) w t ty e i z ht hi hz a m c news hl hnews (by omega) (by omega) (by have hb := hbytes; simp only [Nat.zero_add] at hb; omega)
      rw [hr2] at hr
      cases hr
      exact .inr rfl
  · by_cases hroom : n + m ≤ cap
    · have hfit : n * i.size + news.length ≤ cur.size := by rw [hl, hcs, ← Nat.add_mul]; exact Nat.mul_le_mul_right _ hroom
      have hr2 := run_append_room (P := P) w t ty e i ht hi g n cap cur hgg a m c news hl hnews h1 hroom hfit
      rw [hr2] at hr
      cases hr
      exact .inl rfl
    · have holds : ∀ j u, xs[j]? = some u → w.cell? ((⟨g, 0, none⟩ : Addr).add j) = some u := hown.cells (g := g) rfl
      have hr2 := run_append_grow (P := P) w t ty e i z ht hi hz ⟨g, 0, none⟩ n cap xs hown.1 holds a m c news hl hnews (by omega) (by omega) (growslice_fits (by omega) hbytes)
      rw [hr2] at hr
      cases hr
      exact .inr rfl

theorem wp_append_own2 {o : Oper} {a : Act} {K : Act → World → Prop} {Q : Exit → Act → World → Prop} (s x : Operand) (t : TypeId)
    (ho : o.op = .call { callee := .builtin .append, args := #[s, x], argTypes := #[t, t] })
    (e : TypeId) (i : TypeInfo) (z : Value) (size bytes : Nat) (ht : P.underlying t = some (.slice e)) (hi : P.info? e = some i) (hz : i.zero = some z)
    (hsize : i.size = size) (hby : i.bytes = bytes) (hzs : z.cells.size = size) (hsz : 0 < size)
    (v : Value) (n : Nat) (xs : List Value) (hs : a.eval s = v) (hown : w.ownsRow 0 e size v n xs)
    (ad : Addr) (m c : Nat) (news : List Value) (hx : a.eval x = .slice (some ad) m c) (hl : news.length = m * size) (hnews : ∀ j u, news[j]? = some u → w.cell? (ad.add j) = some u) (h1 : ∀ u ∈ news, u.oneCell' = true)
    (h63 : n + m ≤ maxLen) (hbytes : (n + m) * bytes ≤ 140737488355328)
    (h : ∀ v' w', w'.ownsRow 0 e size v' (n + m) (xs ++ news) → w.grownBy w' v.ownBlock → (v'.ownBlock = v.ownBlock ∨ v'.ownBlock = some w.heap.size) → K (a.put o.dst v') w') : o.wp P a w K Q := by
  obtain ⟨v', w', hr, h2, h3, h4⟩ := run_append_own2 (P := P) w t o.type e i z size bytes ht hi hz hsize hby hzs hsz v n xs hown ad m c news hl hnews h1 h63 hbytes
  unfold Oper.wp execOp
  simp only [ho, resolve, invoke, builtin, Sem.run_bind, Sem.run_pure, Result.andThen_ok, List.map_toArray, List.map_cons, List.map_nil, hs, hx, hr]
  exact h v' w' h2 h3 h4

theorem wpList_append_own2 {ops : Array Oper} {rest : List Oper} {o : Oper} {a : Act} {Q : Exit → Act → World → Prop} (hgd : o.guard = none) (s x : Operand) (t : TypeId)
    (ho : o.op = .call { callee := .builtin .append, args := #[s, x], argTypes := #[t, t] })
    (e : TypeId) (i : TypeInfo) (z : Value) (size bytes : Nat) (ht : P.underlying t = some (.slice e)) (hi : P.info? e = some i) (hz : i.zero = some z)
    (hsize : i.size = size) (hby : i.bytes = bytes) (hzs : z.cells.size = size) (hsz : 0 < size)
    (v : Value) (n : Nat) (xs : List Value) (hs : a.eval s = v) (hown : w.ownsRow 0 e size v n xs)
    (ad : Addr) (m c : Nat) (news : List Value) (hx : a.eval x = .slice (some ad) m c) (hl : news.length = m * size) (hnews : ∀ j u, news[j]? = some u → w.cell? (ad.add j) = some u) (h1 : ∀ u ∈ news, u.oneCell' = true)
    (h63 : n + m ≤ maxLen) (hbytes : (n + m) * bytes ≤ 140737488355328)
    (h : ∀ v' w', w'.ownsRow 0 e size v' (n + m) (xs ++ news) → w.grownBy w' v.ownBlock → (v'.ownBlock = v.ownBlock ∨ v'.ownBlock = some w.heap.size) → wpList P ops Q rest (a.put o.dst v') w') : wpList P ops Q (o :: rest) a w :=
  wpList_plain hgd fun _ hK => wp_append_own2 w s x t ho e i z size bytes ht hi hz hsize hby hzs hsz v n xs hs hown ad m c news hx hl hnews h1 h63 hbytes fun v' w' h2 h3 h4 => hK _ _ (h v' w' h2 h3 h4)
end

/-- Bytes as cells. -/
def cu8 (xs : List Nat) : List Value := xs.map fun (x : Nat) => Value.int .u8 (x : Int)
theorem cu8_length (xs : List Nat) : (cu8 xs).length = xs.length := by simp [cu8]
theorem cu8_append (xs ys : List Nat) : cu8 (xs ++ ys) = cu8 xs ++ cu8 ys := by simp [cu8]

/-- The variable in block p holds a slice of bytes that owns its row (block r) with the bytes xs. tS: the slice's type, tE: the byte's. -/
def Buf (tS tE : TypeId) (w : World) (p : Nat) (r : Option Nat) (xs : List Nat) : Prop :=
  ∃ s, w.heap[p]? = some (.cells #[s] tS (0, 0)) ∧ w.ownsRow 0 tE 1 s xs.length (cu8 xs) ∧ s.ownBlock = r

/-- From w to w' the buffer at p (its row in block r) has come to hold the bytes ys; nothing else that was there has turned. -/
def GrewTo (tS tE : TypeId) (w w' : World) (p : Nat) (r : Option Nat) (ys : List Nat) : Prop :=
  ∃ r', Buf tS tE w' p r' ys ∧ Fr (fun k => k = p ∨ r = some k) w w' ∧ (r' = r ∨ ∃ k, r' = some k ∧ w.heap.size ≤ k)

theorem GrewTo.start {tS tE : TypeId} {w : World} {p : Nat} {r : Option Nat} {xs : List Nat} (h : Buf tS tE w p r xs) : GrewTo tS tE w w p r xs :=
  ⟨r, h, Fr.refl _ _, .inl rfl⟩

theorem GrewTo.trans {tS tE : TypeId} {a b c : World} {p : Nat} {r : Option Nat} {ys zs : List Nat} (h : GrewTo tS tE a b p r ys)
    (k : ∀ r', Buf tS tE b p r' ys → GrewTo tS tE b c p r' zs) : GrewTo tS tE a c p r zs := by
  obtain ⟨r1, h1, h2, h3⟩ := h
  obtain ⟨r2, k1, k2, k3⟩ := k r1 h1
  refine ⟨r2, k1, h2.trans k2 (fun _ _ x => x) ?_, ?_⟩
  · intro i hi hx
    rcases hx with hx | hx
    · exact .inl hx
    · rcases h3 with h3 | ⟨j, h3, hj⟩
      · exact .inr (h3 ▸ hx)
      · rw [h3] at hx; cases hx; omega
  · rcases k3 with k3 | ⟨j, k3, hj⟩
    · rw [k3]; exact h3
    · exact .inr ⟨j, k3, Nat.le_trans h2.size hj⟩

/-- One store of a slice value, behind an append: the buffer has grown by ys. -/
theorem grew_of_append {tS tE : TypeId} (hne : tS ≠ tE) {w w1 : World} {p : Nat} {r : Option Nat} {xs ys : List Nat} {s v' : Value} {o : Obj}
    (hcell : w.heap[p]? = some (.cells #[s] tS (0, 0))) (hown : w.ownsRow 0 tE 1 s xs.length (cu8 xs)) (hr : s.ownBlock = r)
    (hown' : w1.ownsRow 0 tE 1 v' (xs.length + ys.length) (cu8 xs ++ cu8 ys)) (hg : (w.alloc o).grownBy w1 s.ownBlock) (hv : v'.ownBlock = s.ownBlock ∨ ∃ k, v'.ownBlock = some k ∧ w.heap.size ≤ k) :
    GrewTo tS tE w (w1.setCell ⟨p, 0, none⟩ v') p r (xs ++ ys) := by
  have hp : p < w.heap.size := lt_of_block hcell
  have hpr : s.ownBlock ≠ some p := by
    intro e
    rcases hown.2 with ⟨rfl, _⟩ | ⟨g, cap, cur, rfl, _, hh, _⟩
    · simp [Value.ownBlock] at e
    · simp [Value.ownBlock] at e
      subst e
      rw [hh] at hcell
      simp only [Option.some.injEq, Obj.cells.injEq] at hcell
      exact hne hcell.2.1.symm
  have hf : Fr (fun k => k = p ∨ r = some k) w w1 := by
    refine ((Fr.refl _ w).alloc o).grown hg ?_
    intro k hk _
    exact .inr (by rw [← hr]; exact hk)
  have hc1 : w1.heap[p]? = some (.cells #[s] tS (0, 0)) := by
    rw [hg.block p (by simp; omega) (fun e => hpr e.symm), Below.heap_alloc _ _ _ hp]; exact hcell
  have hpv : v'.ownBlock ≠ some p := by
    rcases hv with hv | ⟨k, hv, hk⟩
    · rw [hv]; exact hpr
    · rw [hv]; intro e; cases e; omega
  refine ⟨v'.ownBlock, ⟨v', one_setCell hc1, ?_, rfl⟩, hf.setCell (fun _ => .inl rfl) _, ?_⟩
  · rw [cu8_append, List.length_append]
    exact ownsRow_setCell_other hown' hpv _
  · rcases hv with hv | hv
    · exact .inl (hv.trans hr)
    · exact .inr hv

theorem buf_apart {tS tE : TypeId} (hne : tS ≠ tE) {w : World} {p n : Nat} {xs : List Value} {s : Value}
    (hcell : w.heap[p]? = some (.cells #[s] tS (0, 0))) (hown : w.ownsRow 0 tE 1 s n xs) : s.ownBlock ≠ some p := by
  intro e
  rcases hown.2 with ⟨rfl, _⟩ | ⟨g, cap, cur, rfl, _, hh, _⟩
  · simp [Value.ownBlock] at e
  · simp [Value.ownBlock] at e
    subst e
    rw [hh] at hcell
    simp only [Option.some.injEq, Obj.cells.injEq] at hcell
    exact hne hcell.2.1.symm

/-- Behind an append onto the buffer's slice the variable still holds the old slice. -/
theorem buf_cell_behind {tS tE : TypeId} (hne : tS ≠ tE) {w w1 : World} {p n : Nat} {xs : List Value} {s : Value} {o : Obj}
    (hcell : w.heap[p]? = some (.cells #[s] tS (0, 0))) (hown : w.ownsRow 0 tE 1 s n xs) (hg : (w.alloc o).grownBy w1 s.ownBlock) : w1.heap[p]? = some (.cells #[s] tS (0, 0)) := by
  have hp : p < w.heap.size := lt_of_block hcell
  rw [hg.block p (by simp; omega) (fun e => buf_apart hne hcell hown e.symm), Below.heap_alloc _ _ _ hp]; exact hcell

theorem grew_step {tS tE : TypeId} (hne : tS ≠ tE) {w wr w1 : World} {p : Nat} {r r' : Option Nat} {xs ys : List Nat} {s v' : Value} {o : Obj} 
    (hcell : wr.heap[p]? = some (.cells #[s] tS (0, 0))) (hown : wr.ownsRow 0 tE 1 s xs.length (cu8 xs)) (_hr : s.ownBlock = r')
    (hfr : Fr (fun k => k = p ∨ r = some k) w wr) (hr' : r' = r ∨ ∃ k, r' = some k ∧ w.heap.size ≤ k)
    (hown' : w1.ownsRow 0 tE 1 v' (xs.length + ys.length) (cu8 xs ++ cu8 ys)) (hg : (wr.alloc o).grownBy w1 s.ownBlock) (hv : v'.ownBlock = s.ownBlock ∨ v'.ownBlock = some (wr.heap.size + 1)) :
    GrewTo tS tE w (w1.setCell ⟨p, 0, none⟩ v') p r (xs ++ ys) := by
  have h := grew_of_append hne hcell hown rfl hown' hg (hv.imp id fun h => ⟨_, h, Nat.le_succ _⟩)
  refine GrewTo.trans (⟨s.ownBlock, ⟨s, hcell, hown, rfl⟩, hfr, by rw [_hr]; exact hr'⟩ : GrewTo tS tE w wr p r xs) ?_
  intro r'' hb
  obtain ⟨s', hc', _, hr''⟩ := hb
  rw [hcell] at hc'
  cases hc'
  rw [← hr'']
  exact h

theorem owns_slice {w : World} {base : Nat} {e : TypeId} {size : Nat} {v : Value} {n : Nat} {xs : List Value} (h : w.ownsRow base e size v n xs) : ∃ ao n' c, v = .slice ao n' c := by
  rcases h.2 with ⟨rfl, _⟩ | ⟨g, cap, cur, rfl, _⟩
  · exact ⟨_, _, _, rfl⟩
  · exact ⟨_, _, _, rfl⟩

/-- Bytes as a string. -/
def str (xs : List Nat) : ByteArray := strOfNums (xs.map fun (x : Nat) => (x : Int))

theorem run_string_of_owned {P : Program} (tS tE tStr : TypeId) (hs : P.underlying tS = some (.slice tE)) (he : P.underlying tE = some (.int .u8)) (hd : P.underlying tStr = some .string)
    {w : World} {base : Nat} {v : Value} {n : Nat} {xs : List Nat} (h : w.ownsRow base tE 1 v n (cu8 xs)) : (convert tS tStr v).run P w = .ok (.string (str xs)) w := by
  have hl : xs.length = n := by have := h.1; simpa [cu8] using this
  rcases h.2 with ⟨rfl, rfl⟩ | ⟨g, cap, cur, rfl, _⟩
  · have : xs = [] := List.eq_nil_of_length_eq_zero hl
    subst this
    exact run_convert_bytes_nil w tS tE hs he _ _ tStr hd
  · refine run_convert_bytes_arg w tS tE hs he g 0 n cap (xs.map fun (x : Nat) => (x : Int)) (by simpa using hl) ?_ tStr hd
    intro i hi
    have hc := h.cells (g := g) rfl i (.int .u8 (xs.getD i 0)) (by simp [cu8, List.getD, List.getElem?_eq_getElem (show i < xs.length by omega)])
    have hadd : (⟨g, 0, none⟩ : Addr).add i = ⟨g, 0 + i, none⟩ := by unfold Addr.add; split <;> simp_all
    rw [hadd] at hc
    rw [hc]
    simp [List.getD, List.getElem?_eq_getElem (show i < xs.length by omega)]

theorem owns_len {w : World} {base : Nat} {e : TypeId} {size : Nat} {ao : Option Addr} {n' cp n : Nat} {xs : List Value} (h : w.ownsRow base e size (.slice ao n' cp) n xs) : n' = n := by
  rcases h.2 with ⟨h1, h2⟩ | ⟨g, cap, cur, h1, _⟩
  · cases h1; exact h2.symm
  · cases h1; rfl

section
variable {P : Program}
/-- append(s, x): one element of one cell onto a row of the call's own. -/
theorem wpList_append_one (w : World) (u : Value) {ops : Array Oper} {rest : List Oper} {o : Oper} {a : Act} {Q : Exit → Act → World → Prop} (hgd : o.guard = none) (s x : Operand) (tS tE : TypeId)
    (ho : o.op = .call { callee := .builtin .append, args := #[s, x], argTypes := #[tS, tS] })
    (z : Value) (bytes : Nat) (ht : P.underlying tS = some (.slice tE)) (hinfo : (P.info? tE).map (fun i => (i.zero, i.size, i.bytes)) = some (some z, 1, bytes)) (hz : z.cells.size = 1) (hu : u.oneCell' = true)
    (v : Value) (n : Nat) (xs : List Value) (hs : a.eval s = v) (hown : w.ownsRow 0 tE 1 v n xs) (hx : a.eval x = .slice (some ⟨w.heap.size, 0, none⟩) 1 1) (hn : n < 1000000000000) (hby : bytes ≤ 32)
    (h : ∀ ao cp w1, w1.ownsRow 0 tE 1 (.slice ao (n + 1) cp) (n + 1) (xs ++ [u]) → (w.alloc (.cells #[u] tE)).grownBy w1 v.ownBlock →
      ((Value.slice ao (n + 1) cp).ownBlock = v.ownBlock ∨ (Value.slice ao (n + 1) cp).ownBlock = some (w.heap.size + 1)) → wpList P ops Q rest (a.put o.dst (.slice ao (n + 1) cp)) w1) : wpList P ops Q (o :: rest) a (w.alloc (.cells #[u] tE)) := by
  obtain ⟨i0, hi, hz0, hz1, hz2⟩ := info_parts hinfo
  refine wpList_append_own2 _ hgd s x tS ho tE i0 z 1 bytes ht hi hz0 hz1 hz2 hz (by decide) v n xs hs (hown.alloc _) ⟨w.heap.size, 0, none⟩ 1 1 [u] hx rfl (cell_one_new _ _ _) ?_ ?_ ?_ ?_
  · intro u' hu'; simp at hu'; subst hu'; exact hu
  · unfold maxLen; omega
  · have : (n + 1) * bytes ≤ (n + 1) * 32 := Nat.mul_le_mul_left _ hby
    omega
  · intro v' w1 h1 h2 h3
    obtain ⟨ao, n1, cp, rfl⟩ := owns_slice h1
    obtain rfl := owns_len h1
    exact h ao cp w1 h1 h2 (by simpa using h3)
end

/-- The slice v owns its row with the bytes xs in w'; below w nothing has turned. -/
def OwnB (tE : TypeId) (w w' : World) (v : Value) (xs : List Nat) : Prop :=
  (w'.ownsRow 0 tE 1 v xs.length (cu8 xs) ∧ ∀ k, v.ownBlock = some k → w.heap.size ≤ k) ∧ Below w.heap.size w w'

theorem OwnB.nil (tE : TypeId) (w : World) : OwnB tE w w (.slice none 0 0) [] :=
  ⟨⟨World.ownsRow_nil _ _ _ _, fun k h => by simp [Value.ownBlock] at h⟩, Below.refl _ _⟩

theorem OwnB.step {tE : TypeId} {w wr w1 : World} {v v' : Value} {xs : List Nat} {y : Nat} {o : Obj} (h : OwnB tE w wr v xs)
    (hown' : w1.ownsRow 0 tE 1 v' (xs.length + 1) (cu8 xs ++ [Value.int .u8 (y : Int)])) (hg : (wr.alloc o).grownBy w1 v.ownBlock) (hv : v'.ownBlock = v.ownBlock ∨ v'.ownBlock = some (wr.heap.size + 1)) :
    OwnB tE w w1 v' (xs ++ [y]) := by
  have hz := h.2.size
  refine ⟨⟨by simpa [cu8] using hown', ?_⟩, (h.2.alloc hz _).grown hg (by simp; omega) h.1.2⟩
  intro k hk
  rcases hv with hv | hv
  · exact h.1.2 k (hv ▸ hk)
  · rw [hv] at hk; cases hk; omega

/-- The slice s reads as the bytes xs in w; its row lies in no block but those that q lets in. -/
def RowB (q : Nat → Prop) (w : World) (s : Value) (xs : List Nat) : Prop :=
  ∃ ao cp g off, s = .slice ao xs.length cp ∧ xs.length ≤ cp ∧ cp ≤ maxLen ∧ q g ∧ (xs = [] ∨ ao = some ⟨g, off, none⟩) ∧ ∀ i, (h : i < xs.length) → w.cell? ⟨g, off + i, none⟩ = some (.int .u8 (xs[i] : Int))

theorem rowB_of_owns {tE : TypeId} {w w2 : World} {v : Value} {n : Nat} {xs : List Nat} (q : Nat → Prop) (h : w.ownsRow 0 tE 1 v n (cu8 xs)) (hw : ∀ a : Addr, a.block < w.heap.size → w2.cell? a = w.cell? a) (hq : ∀ k, v.ownBlock = some k → k < w.heap.size → q k) (hq0 : ∃ k, q k) : RowB q w2 v xs := by
  have hl : xs.length = n := by have := h.1; simpa [cu8] using this
  rcases h.2 with ⟨rfl, rfl⟩ | ⟨g, cap, cur, rfl, _, hh, hc, hm, _⟩
  · have : xs = [] := List.eq_nil_of_length_eq_zero hl
    subst this
    obtain ⟨k, hk⟩ := hq0
    exact ⟨none, 0, k, 0, rfl, Nat.le_refl _, Nat.zero_le _, hk, .inl rfl, fun i h => absurd h (Nat.not_lt_zero i)⟩
  · refine ⟨_, cap, g, 0, by rw [hl], by omega, hm, hq g rfl (lt_of_block hh), .inr rfl, ?_⟩
    intro i hi
    have hc := h.cells (g := g) rfl i (.int .u8 (xs[i] : Int)) (by simp [cu8, List.getElem?_eq_getElem hi])
    have hadd : (⟨g, 0, none⟩ : Addr).add i = ⟨g, 0 + i, none⟩ := by unfold Addr.add; split <;> simp_all
    rw [hadd] at hc
    rw [hw _ (lt_of_block hh)]
    exact hc

/-- Three variables written, one behind the other. -/
theorem from_end {w w2 : World} {pn pr po : Nat} {v0 v1 v2 a b c : Value} {t0 t1 t2 : TypeId} (h1 : pn ≠ pr) (h2 : pn ≠ po) (h3 : pr ≠ po) (HF : Fr (fun _ => False) w w2)
    (hn : w2.heap[pn]? = some (.cells #[v0] t0 (0, 0))) (hr : w2.heap[pr]? = some (.cells #[v1] t1 (0, 0))) (ho : w2.heap[po]? = some (.cells #[v2] t2 (0, 0))) :
    ((((w2.setCell ⟨pn, 0, none⟩ a).setCell ⟨pr, 0, none⟩ b).setCell ⟨po, 0, none⟩ c).drew).heap[pn]? = some (.cells #[a] t0 (0, 0)) ∧
    ((((w2.setCell ⟨pn, 0, none⟩ a).setCell ⟨pr, 0, none⟩ b).setCell ⟨po, 0, none⟩ c).drew).heap[pr]? = some (.cells #[b] t1 (0, 0)) ∧
    ((((w2.setCell ⟨pn, 0, none⟩ a).setCell ⟨pr, 0, none⟩ b).setCell ⟨po, 0, none⟩ c).drew).heap[po]? = some (.cells #[c] t2 (0, 0)) ∧
    Fr (fun k => k = pn ∨ k = pr ∨ k = po) w ((((w2.setCell ⟨pn, 0, none⟩ a).setCell ⟨pr, 0, none⟩ b).setCell ⟨po, 0, none⟩ c).drew) := by
  have e1 := one_setCell (u := a) hn
  have hr1 : (w2.setCell ⟨pn, 0, none⟩ a).heap[pr]? = some (.cells #[v1] t1 (0, 0)) := by rw [Below.heap_setCell _ _ _ _ (fun e => h1 e.symm)]; exact hr
  have e2 := one_setCell (u := b) hr1
  have ho1 : ((w2.setCell ⟨pn, 0, none⟩ a).setCell ⟨pr, 0, none⟩ b).heap[po]? = some (.cells #[v2] t2 (0, 0)) := by
    rw [Below.heap_setCell _ _ _ _ (fun e => h3 e.symm), Below.heap_setCell _ _ _ _ (fun e => h2 e.symm)]; exact ho
  refine ⟨?_, ?_, one_setCell (u := c) ho1, ?_⟩
  · show (((w2.setCell _ a).setCell _ b).setCell _ c).heap[pn]? = _
    rw [Below.heap_setCell _ _ _ _ h2, Below.heap_setCell _ _ _ _ h1]; exact e1
  · show (((w2.setCell _ a).setCell _ b).setCell _ c).heap[pr]? = _
    rw [Below.heap_setCell _ _ _ _ h3]; exact e2
  · exact ((((HF.mono (fun _ _ h => h.elim)).setCell (fun _ => .inl rfl) _).setCell (fun _ => .inr (.inl rfl)) _).setCell (fun _ => .inr (.inr rfl)) _).drew

/-- A row of the call's own that is not empty: where its slice points, and its cells. -/
theorem owns_some {tE : TypeId} {w : World} {ao : Option Addr} {n' c n : Nat} {xs : List Nat} (h : w.ownsRow 0 tE 1 (.slice ao n' c) n (cu8 xs)) (h0 : 0 < xs.length) :
    ∃ g, ao = some ⟨g, 0, none⟩ ∧ n' = xs.length ∧ n' ≤ c ∧ c ≤ maxLen ∧ ∀ i, (hi : i < xs.length) → w.cell? ⟨g, 0 + i, none⟩ = some (.int .u8 (xs[i] : Int)) := by
  have hl : xs.length = n := by have := h.1; simpa [cu8] using this
  rcases h.2 with ⟨h1, h2⟩ | ⟨g, cap, cur, h1, _, hh, hc, hm, _⟩
  · omega
  · cases h1
    refine ⟨g, rfl, hl.symm, hc, hm, ?_⟩
    intro i hi
    have hc := h.cells (g := g) rfl i (.int .u8 (xs[i] : Int)) (by simp [cu8, List.getElem?_eq_getElem hi])
    have hadd : (⟨g, 0, none⟩ : Addr).add i = ⟨g, 0 + i, none⟩ := by unfold Addr.add; split <;> simp_all
    rw [hadd] at hc
    exact hc

/-- s[:h] within the capacity. -/
theorem run_slice_upto {P : Program} (t e : TypeId) (ht : P.underlying t = some (.slice e)) (ao : Option Addr) (n c m : Nat) (h : Int) (h0 : h = (m : Int)) (h1 : m ≤ c) {z : Nat} (hz : ∀ w, (sizeOf e).run P w = .ok z w) (w : World) :
    (Instr.slice t (.slice ao n c) none (some (.int .i64 h)) none).run P w = .ok (.slice ao m c) w := by
  subst h0
  have hh : (m : Int) ≤ (c : Int) := by omega
  simp [Instr.slice, run_underlying ht, Instr.sliceBounds, go_sem, hh, hz]
end Go.Proofs.YtnmbjalojgccmaaGreat
end
/-
  Slices of bins (an index and a count, two cells each), plainly: what such a slice reads as; an append of one bin.
-/
section
namespace Go.Proofs.YtnmbjalojgccmaaGreat
open Go.RowKit

/-- Bins as cells: an index, and a float by its bits. -/
def pc : List (Int × Nat) → List Value
  | [] => []
  | p :: t => .int .i64 p.1 :: .float .f64 p.2 :: pc t

theorem pc_length (ps : List (Int × Nat)) : (pc ps).length = ps.length * 2 := by
  induction ps with
  | nil => rfl
  | cons p t ih => simp [pc, ih]; omega
theorem pc_append (ps qs : List (Int × Nat)) : pc (ps ++ qs) = pc ps ++ pc qs := by
  induction ps with
  | nil => rfl
  | cons p t ih => simp [pc, ih]
theorem pc_take (ps : List (Int × Nat)) : ∀ n, pc (ps.take n) = (pc ps).take (n * 2) := by
  induction ps with
  | nil => intro n; simp [pc]
  | cons p t ih =>
    intro n
    cases n with
    | zero => simp [pc]
    | succ n => simp [pc, ih, Nat.add_mul]
theorem pc_one (ps : List (Int × Nat)) : ∀ u ∈ pc ps, u.oneCell' = true := by
  induction ps with
  | nil => intro u h; cases h
  | cons p t ih =>
    intro u h
    rcases List.mem_cons.1 h with rfl | h
    · rfl
    · rcases List.mem_cons.1 h with rfl | h
      · rfl
      · exact ih u h
theorem pc_get0 (ps : List (Int × Nat)) : ∀ i, (h : i < ps.length) → (pc ps)[i * 2]? = some (.int .i64 ps[i].1) := by
  induction ps with
  | nil => intro i h; cases h
  | cons p t ih =>
    intro i h
    cases i with
    | zero => rfl
    | succ i => rw [show (i + 1) * 2 = i * 2 + 1 + 1 from by omega]; simpa [pc] using ih i (by simpa using h)
theorem pc_get1 (ps : List (Int × Nat)) : ∀ i, (h : i < ps.length) → (pc ps)[i * 2 + 1]? = some (.float .f64 ps[i].2) := by
  induction ps with
  | nil => intro i h; cases h
  | cons p t ih =>
    intro i h
    cases i with
    | zero => rfl
    | succ i => rw [show (i + 1) * 2 + 1 = i * 2 + 1 + 1 + 1 from by omega]; simpa [pc] using ih i (by simpa using h)

/-- In the row at ao the bins lie. -/
def Lie2 (w : World) (ao : Option Addr) (ps : List (Int × Nat)) : Prop :=
  ps = [] ∨ ∃ g off, ao = some ⟨g, off, none⟩ ∧ ∀ i, (h : i < ps.length) → w.cell? ⟨g, off + i * 2, none⟩ = some (.int .i64 ps[i].1) ∧ w.cell? ⟨g, off + i * 2 + 1, none⟩ = some (.float .f64 ps[i].2)

theorem Lie2.later {w w' : World} {ao : Option Addr} {ps : List (Int × Nat)} (h : Lie2 w ao ps) (hb : Below w.heap.size w w') : Lie2 w' ao ps := by
  rcases h with h | ⟨g, off, rfl, h⟩
  · exact .inl h
  · refine .inr ⟨g, off, rfl, fun i hi => ?_⟩
    obtain ⟨h0, h1⟩ := h i hi
    exact ⟨(hb.cell (World.block_lt_of_cell? w _ h0)).trans h0, (hb.cell (World.block_lt_of_cell? w _ h1)).trans h1⟩

/-- The slice v owns its row with the bins ps in w'; below w nothing has turned. -/
def Own2 (e : TypeId) (w w' : World) (v : Value) (ps : List (Int × Nat)) : Prop :=
  (w'.ownsRow 0 e 2 v ps.length (pc ps) ∧ ∀ k, v.ownBlock = some k → w.heap.size ≤ k) ∧ Below w.heap.size w w'

theorem Own2.nil (e : TypeId) (w : World) : Own2 e w w (.slice none 0 0) [] :=
  ⟨⟨World.ownsRow_nil _ _ _ _, fun k h => by simp [Value.ownBlock] at h⟩, Below.refl _ _⟩

theorem lie2_of_owns {e : TypeId} {w : World} {ao : Option Addr} {n' c n : Nat} {ps : List (Int × Nat)} (h : w.ownsRow 0 e 2 (.slice ao n' c) n (pc ps)) : n' = ps.length ∧ n' ≤ c ∧ c ≤ maxLen ∧ Lie2 w ao ps := by
  have hl : ps.length = n := by have := h.1; rw [pc_length] at this; omega
  rcases h.2 with ⟨h1, h2⟩ | ⟨g, cap, cur, h1, _, hh, hc, hm, _⟩
  · cases h1
    have : ps = [] := List.eq_nil_of_length_eq_zero (by omega)
    exact ⟨by omega, Nat.le_refl _, Nat.zero_le _, .inl this⟩
  · cases h1
    refine ⟨hl.symm, hc, hm, .inr ⟨g, 0, rfl, fun i hi => ?_⟩⟩
    have hadd : ∀ j, (⟨g, 0, none⟩ : Addr).add j = ⟨g, 0 + j, none⟩ := fun j => by unfold Addr.add; split <;> simp_all
    have a0 := h.cells (g := g) rfl (i * 2) _ (pc_get0 ps i hi)
    have a1 := h.cells (g := g) rfl (i * 2 + 1) _ (pc_get1 ps i hi)
    rw [hadd] at a0 a1
    exact ⟨a0, a1⟩

section
variable {P : Program}
/-- append(s, x): one element of two cells onto a row of the call's own. -/
theorem wpList_append_pair (w : World) (B : Nat) (hB : w.heap.size = B) (i : Int) (b : Nat) {ops : Array Oper} {rest : List Oper} {o : Oper} {a : Act} {Q : Exit → Act → World → Prop} (hgd : o.guard = none) (s x : Operand) (tS tE : TypeId)
    (ho : o.op = .call { callee := .builtin .append, args := #[s, x], argTypes := #[tS, tS] })
    (z : Value) (bytes : Nat) (ht : P.underlying tS = some (.slice tE)) (hinfo : (P.info? tE).map (fun i => (i.zero, i.size, i.bytes)) = some (some z, 2, bytes)) (hz : z.cells.size = 2)
    (v : Value) (n : Nat) (ps : List (Int × Nat)) (hs : a.eval s = v) (hown : w.ownsRow 0 tE 2 v n (pc ps)) (hx : a.eval x = .slice (some ⟨B, 0, none⟩) 1 1) (hn : n < 1000000000000) (hby : bytes ≤ 32)
    (h : ∀ ao cp w1, w1.ownsRow 0 tE 2 (.slice ao (n + 1) cp) (n + 1) (pc (ps ++ [(i, b)])) → (w.alloc (.cells #[.int .i64 i, .float .f64 b] tE)).grownBy w1 v.ownBlock →
      ((Value.slice ao (n + 1) cp).ownBlock = v.ownBlock ∨ (Value.slice ao (n + 1) cp).ownBlock = some (B + 1)) → wpList P ops Q rest (a.put o.dst (.slice ao (n + 1) cp)) w1) : wpList P ops Q (o :: rest) a (w.alloc (.cells #[.int .i64 i, .float .f64 b] tE)) := by
  subst hB
  obtain ⟨i0, hi, hz0, hz1, hz2⟩ := info_parts hinfo
  have hnew : ∀ j u, (pc [(i, b)])[j]? = some u → (w.alloc (.cells #[.int .i64 i, .float .f64 b] tE)).cell? ((⟨w.heap.size, 0, none⟩ : Addr).add j) = some u := by
    intro j u hj
    have hadd : (⟨w.heap.size, 0, none⟩ : Addr).add j = ⟨w.heap.size, 0 + j, none⟩ := by unfold Addr.add; split <;> simp_all
    rw [hadd, cell_of_row _ _ _ _ _ _ (heap_alloc_new w (.cells #[.int .i64 i, .float .f64 b] tE))]
    simpa [pc] using hj
  refine wpList_append_own2 _ hgd s x tS ho tE i0 z 2 bytes ht hi hz0 hz1 hz2 hz (by decide) v n (pc ps) hs (hown.alloc _) ⟨w.heap.size, 0, none⟩ 1 1 (pc [(i, b)]) hx rfl hnew (pc_one _) ?_ ?_ ?_
  · unfold maxLen; omega
  · have : (n + 1) * bytes ≤ (n + 1) * 32 := Nat.mul_le_mul_left _ hby
    omega
  · intro v' w1 h1 h2 h3
    rw [← pc_append] at h1
    obtain ⟨ao, n1, cp, rfl⟩ := owns_slice h1
    obtain rfl := owns_len h1
    exact h ao cp w1 h1 h2 (by simpa using h3)
end

theorem Own2.step {e : TypeId} {w wr w1 : World} {v v' : Value} {ps : List (Int × Nat)} {i : Int} {b : Nat} {o : Obj} (h : Own2 e w wr v ps)
    (hown' : w1.ownsRow 0 e 2 v' (ps.length + 1) (pc (ps ++ [(i, b)]))) (hg : (wr.alloc o).grownBy w1 v.ownBlock) (hv : v'.ownBlock = v.ownBlock ∨ v'.ownBlock = some (wr.heap.size + 1)) :
    Own2 e w w1 v' (ps ++ [(i, b)]) := by
  have hz := h.2.size
  refine ⟨⟨by simpa using hown', ?_⟩, (h.2.alloc hz _).grown hg (by simp; omega) h.1.2⟩
  intro k hk
  rcases hv with hv | hv
  · exact h.1.2 k (hv ▸ hk)
  · rw [hv] at hk; cases hk; omega

/-- The same, behind one more new block. -/
theorem Own2.step2 {e : TypeId} {w wr w1 : World} {v v' : Value} {ps : List (Int × Nat)} {i : Int} {b : Nat} {o1 o2 : Obj} (h : Own2 e w wr v ps)
    (hown' : w1.ownsRow 0 e 2 v' (ps.length + 1) (pc (ps ++ [(i, b)]))) (hg : ((wr.alloc o1).alloc o2).grownBy w1 v.ownBlock) (hv : v'.ownBlock = v.ownBlock ∨ v'.ownBlock = some (wr.heap.size + 1 + 1)) :
    Own2 e w w1 v' (ps ++ [(i, b)]) := by
  have hz := h.2.size
  refine ⟨⟨by simpa using hown', ?_⟩, ((h.2.alloc hz _).alloc (by simp; omega) _).grown hg (by simp; omega) h.1.2⟩
  intro k hk
  rcases hv with hv | hv
  · exact h.1.2 k (hv ▸ hk)
  · rw [hv] at hk; cases hk; omega
end Go.Proofs.YtnmbjalojgccmaaGreat
end
/-
  laws.bins: the bins of the reference.
-/
section
namespace Go.Proofs.YtnmbjalojgccmaaGreat
open Go.RowKit

theorem Tryz.infoSB : (Tryz.prog.info? 44).map (fun i => (i.zero, i.size, i.bytes)) = some (some (.agg #[.int .i64 0, .float .f64 0]), 2, 16) := by kernel_rfl

/-- It hands back a slice of the call's own with the bins ps. -/
def GivesP (t : TypeId) (ps : List (Int × Nat)) (w : World) (e : Ending) (w' : World) : Prop :=
  ∃ ao c, e = .returned (.slice ao ps.length c) ∧ Own2 t w w' (.slice ao ps.length c) ps

def BinsRel (ps : List (Int × Nat)) (w wr : World) (v i : Value) : Prop :=
  ∃ k ao c, k ≤ ps.length ∧ i = .int .i64 (k : Int) ∧ v = .slice ao k c ∧ Own2 44 w wr (.slice ao k c) (ps.take k)

set_option maxRecDepth 100000 in
set_option maxHeartbeats 400000 in
theorem bins_any (ao : Option Addr) (cp : Nat) (ps : List (Int × Nat)) (w : World) (hl : Lie2 w ao ps) (hn : ps.length ≤ 2147483647) :
    Calls Tryz.prog 10 #[.slice ao ps.length cp] w fun e w' => GivesP 44 ps w e w' := by
  have HL := Lib.hid hl; clear hl
  go_enter Tryz.func10, Tryz.ntmps10
  go_wp2
  go_loopw [3, 8] (fun v i wr => BinsRel ps w wr v i) (fun _ i _ => ps.length - (intOf i).toNat)
  case atStart => exact ⟨0, none, 0, by omega, rfl, rfl, Own2.nil _ _⟩
  case round =>
    obtain ⟨k, ar, cr, hk, rfl, rfl, hown⟩ := hrel
    by_cases hlt : k < ps.length
    · have hbw := hown.2
      have hlie := HL.out.later hbw
      rcases hlie with h0 | ⟨g, off, rfl, hcell⟩
      · rw [h0] at hlt; exact absurd hlt (Nat.not_lt_zero _)
      obtain ⟨c0, c1⟩ := hcell k hlt
      obtain ⟨x, hx⟩ : ∃ x, x = ps[k].1 := ⟨_, rfl⟩
      obtain ⟨b, hb⟩ : ∃ b, b = ps[k].2 := ⟨_, rfl⟩
      rw [← hx] at c0
      rw [← hb] at c1
      have HX := Lib.hid hx
      have HB := Lib.hid hb
      have hz := hown.2.size
      have HO := Lib.hid hown
      have ho1 := hown.1.1
      have hkl : (ps.take k).length = k := by simp; omega
      rw [hkl] at ho1
      clear hx hb hown hcell hbw hkl
      go_wp2_with (at_builtin; refine wpList_append_pair (wr.alloc (.cells #[.int .i64 x, .float .f64 b] 62)) (wr.heap.size + 1) (by simp) x b rfl _ _ 24 44 rfl (.agg #[.int .i64 0, .float .f64 0]) 16 Tryz.underlying24 Tryz.infoSB rfl (.slice ar k cr) k (ps.take k) rfl (ho1.alloc _) rfl (by omega) (by decide) ?_; intro ao1 cp1 w1 hown' hgrow hblk)
      have hst := HO.out.step2 (o1 := .cells #[.int .i64 x, .float .f64 b] 62) (o2 := .cells #[.int .i64 x, .float .f64 b] 44) (by rw [show (ps.take k).length = k from by simp; omega]; exact hown') hgrow hblk
      have HS := Lib.hid hst
      clear hst hown' hgrow hblk ho1 c0 c1
      go_wp2
      go_roundw
      case rel =>
        refine ⟨k + 1, ao1, cp1, by omega, by go_num, rfl, ?_⟩
        have := HS.out
        rw [HX.out, HB.out] at this
        rw [List.take_succ_eq_append_getElem hlt]
        exact this
      case measure => simp [intOf]; omega
    · obtain rfl : k = ps.length := by omega
      have HO := Lib.hid hown
      clear hown hlt
      go_wp2
      go_ret
      refine ⟨ar, cr, rfl, ?_⟩
      have := HO.out
      rwa [List.take_length] at this
end Go.Proofs.YtnmbjalojgccmaaGreat
end
