/-
  A store into which bins are merged one by one.
-/
import Derived.Test.YtnmbjalojgccmaaGreatME
import Derived.Deep.QuietTactic
import Derived.BigQuiet
section
namespace Go.Proofs.YtnmbjalojgccmaaGreat
open Go.RowKit

/-- An assertion to the very type. -/
theorem run_assert_same {P : Program} (t xT e : TypeId) (v : Value) (hu : P.underlying t = some (.pointer e)) (w : World) : (Instr.typeAssert (.iface t v) xT t true).run P w = .ok (.tuple #[v, .bool true]) w := by
  simp [Instr.typeAssert, run_underlying hu]
/-- .. where it holds something else. -/
theorem run_assert_other {P : Program} (t u xT e : TypeId) (v : Value) (hu : P.underlying u = some (.pointer e)) (htu : t ≠ u) (hz : ∀ w, (zeroValue u).run P w = .ok (.pointer none) w) (w : World) : (Instr.typeAssert (.iface t v) xT u true).run P w = .ok (.tuple #[.pointer none, .bool false]) w := by
  simp [Instr.typeAssert, run_underlying hu, htu, hz]

/-- The store at p has the bins xs and those told so far; in box bx its pointer lies. -/
def MJ {kind : Int} (K : StoreKind kind) (most : Int) (xs : Bins) (p bx : Nat) (PT : TypeId) (done : Bins) (T : Nat → Prop) (w : World) : Prop :=
  ∃ S, K.St most (xs ++ done) S p w ∧ w.heap[bx]? = some (.cells #[.pointer (some ⟨p, 0, none⟩)] PT (0, 0)) ∧ ¬ S bx ∧ ∀ b, T b ↔ S b ∨ b = bx

/-- What is merged into what is not too much. -/
structure Fits2 (kind most : Int) (xs ks : Bins) : Prop where
  known : knownB kind most = true
  inR : InR xs
  pos : Pos xs
  inR2 : InR ks
  pos2 : Pos ks
  tot : tot xs + tot ks < 1000000000
  len : xs.length + ks.length < 1000

theorem tot_prefix {a b : Bins} (h : a <+: b) : tot a ≤ tot b := by
  obtain ⟨c, rfl⟩ := h; rw [tot_append]; omega

theorem merge_cb {kind : Int} {K : StoreKind kind} {most : Int} {xs ks : Bins} {p bx : Nat} {PT : TypeId} {F : FuncId} (hf : Fits2 kind most xs ks) (hE : ∀ args w, (callFunc F args).run Tryz.prog w = .ok (.enter F args) w)
   (hcb : ∀ x c w (Q : Ending → World → Prop), w.cell? ⟨bx, 0, none⟩ = some (.pointer (some ⟨p, 0, none⟩)) → (Calls Tryz.prog K.fAdd #[.pointer (some ⟨p, 0, none⟩), .int .i64 x, .float .f64 (nf c)] w fun e w' => e = .returned (.tuple #[]) ∧ Q e w') →
      Calls Tryz.prog F #[.int .i64 x, .float .f64 (nf c), .pointer (some ⟨bx, 0, none⟩)] w fun e w' => e = .returned (.bool false) ∧ Q (.returned (.tuple #[])) w') : Callback F bx ks (MJ K most xs p bx PT) where
  enter := hE
  call := fun done x c T w hj hpre => by
    obtain ⟨S, h1, h2, h3, h4⟩ := hj
    have hmem : ∀ q ∈ done ++ [(x, c)], q ∈ ks := fun q hq => hpre.subset hq
    have hd : ∀ q ∈ done, q ∈ ks := fun q hq => hmem q (List.mem_append_left _ hq)
    have hx := hf.inR2 (x, c) (hmem _ (List.mem_append_right _ (List.mem_singleton.2 rfl)))
    have hc := hf.pos2 (x, c) (hmem _ (List.mem_append_right _ (List.mem_singleton.2 rfl)))
    have htp := tot_prefix hpre
    rw [tot_snoc] at htp
    have hlen := hpre.length_le
    rw [List.length_append, List.length_singleton] at hlen
    have hA := K.add most (xs ++ done) S p x c w hf.known h1 (fun q hq => (List.mem_append.1 hq).elim (hf.inR q) (fun h => hf.inR2 q (hd q h))) (fun q hq => (List.mem_append.1 hq).elim (hf.pos q) (fun h => hf.pos2 q (hd q h))) (by rw [tot_append]; have := hf.tot; omega) (by rw [List.length_append]; have := hf.len; omega) hx.1 hx.2 hc
    refine (hcb x c w _ (cell_of_one h2) hA).mono ?_
    rintro e w' ⟨rfl, S', g1, g2, g3⟩
    have hbl := lt_of_block h2
    refine ⟨rfl, fun b => S' b ∨ b = bx, ⟨S', by rw [← List.append_assoc]; exact g1, g2.heap h2 h3, fun h => (g3 bx h).elim h3 (fun h => by omega), fun b => Iff.rfl⟩, g2.mono (fun b _ hb => (h4 b).2 (.inl hb)), fun b hb => ?_⟩
    rcases hb with hb | hb
    · exact (g3 b hb).imp (fun h => (h4 b).2 (.inl h)) id
    · exact .inl ((h4 b).2 (.inr hb))
  fr := fun done T w w' U hj hfr hn => by
    obtain ⟨S, h1, h2, h3, h4⟩ := hj
    exact ⟨S, K.fr most _ S p U w w' h1 hfr (fun k hk => hn k ((h4 k).2 (.inl hk))), hfr.heap h2 (hn bx ((h4 bx).2 (.inr rfl))), h3, h4⟩
  lt := fun done T w hj b hb => by
    obtain ⟨S, h1, h2, h3, h4⟩ := hj
    rcases (h4 b).1 hb with h | h
    · exact K.lt most _ S p w h1 b h
    · rw [h]; exact lt_of_block h2

/-- Behind the merge: the store has the bins of both. -/
def MergedTo {kind other : Int} (K : StoreKind kind) (O : StoreKind other) (most om : Int) (xs ys : Bins) (S R : Nat → Prop) (p r : Nat) (w : World) (e : Ending) (w' : World) : Prop :=
  e = .returned (.tuple #[]) ∧ O.St om ys R r w' ∧ ∃ S', K.St most (xs ++ keptB other om ys) S' p w' ∧ Fr (fun b => S b ∨ R b) w w' ∧ (∀ b, S' b → S b ∨ w.heap.size ≤ b)

theorem merged_eached {kind other : Int} {K : StoreKind kind} {O : StoreKind other} {most om : Int} {xs ys : Bins} {S R : Nat → Prop} {p r : Nat} {PT : TypeId} {w w1 w2 w' : World} {e : Ending} (hw : w1 = w.alloc (.cells #[.pointer (some ⟨p, 0, none⟩)] PT)) (hw2 : Fr R w1 w2)
   (h : Eached O om ys R r (MJ K most xs p w.heap.size PT) (fun b => S b ∨ b = w.heap.size) w2 e w') : MergedTo K O most om xs ys S R p r w e w' := by
  obtain ⟨rfl, h1, T', ⟨S', h2, h3, h4, h5⟩, h6, h7⟩ := h
  have hs : w1.heap.size = w.heap.size + 1 := by rw [hw]; simp
  have h0 : Fr R w w2 := (show Fr (fun _ => False) w w1 from by rw [hw]; exact (Fr.refl _ w).alloc _).trans hw2 (fun _ _ h => h.elim) (fun _ _ h => h)
  have hs2 := h0.size
  refine ⟨rfl, h1, S', h2, h0.trans h6 (fun _ _ h => .inr h) (fun i hi h => ?_), fun b hb => ?_⟩
  · rcases h with h | h | h
    · exact .inr h
    · exact .inl h
    · omega
  · rcases h7 b ((h5 b).2 (.inl hb)) with h | h
    · rcases h with h | h
      · exact .inl h
      · right; omega
    · right; omega
theorem MJ.start {kind : Int} {K : StoreKind kind} {most : Int} {xs : Bins} {S R : Nat → Prop} {p : Nat} {PT : TypeId} {w w1 w2 : World} (hw : w1 = w.alloc (.cells #[.pointer (some ⟨p, 0, none⟩)] PT)) (hw2 : Fr R w1 w2) (h : K.St most xs S p w) (hd : ∀ b, S b → ¬ R b) (hR : ∀ b, R b → b < w.heap.size) :
    MJ K most xs p w.heap.size PT [] (fun b => S b ∨ b = w.heap.size) w2 := by
  have h0 : Fr R w w2 := (show Fr (fun _ => False) w w1 from by rw [hw]; exact (Fr.refl _ w).alloc _).trans hw2 (fun _ _ h => h.elim) (fun _ _ h => h)
  refine ⟨S, by rw [List.append_nil]; exact K.fr most xs S p R w w2 h h0 hd, hw2.heap (by rw [hw]; exact heap_alloc_new w _) (fun h => Nat.lt_irrefl _ (hR _ h)), fun h2 => Nat.lt_irrefl _ (K.lt most xs S p w h _ h2), fun b => Iff.rfl⟩
theorem merged_none {kind other : Int} {K : StoreKind kind} {O : StoreKind other} {most om : Int} {xs ys : Bins} {S R : Nat → Prop} {p r : Nat} {PT : TypeId} {w w1 w2 : World} (hw : w1 = w.alloc (.cells #[.pointer (some ⟨p, 0, none⟩)] PT)) (hw2 : Fr R w1 w2) (ho : O.St om ys R r w2) (h : K.St most xs S p w) (hd : ∀ b, S b → ¬ R b) (hy : ys = []) :
    MergedTo K O most om xs ys S R p r w (.returned (.tuple #[])) w2 := by
  have h0 : Fr R w w2 := (show Fr (fun _ => False) w w1 from by rw [hw]; exact (Fr.refl _ w).alloc _).trans hw2 (fun _ _ h => h.elim) (fun _ _ h => h)
  refine ⟨rfl, ho, S, ?_, h0.mono (fun _ _ h => .inr h), fun b hb => .inl hb⟩
  rw [hy, kept_nil, List.append_nil]
  exact K.fr most xs S p R w w2 h h0 hd
end Go.Proofs.YtnmbjalojgccmaaGreat
end
/-
  MergeWith by ForEach, for each kind of target. (Printed by gen_merge0.py.)
-/
section
namespace Go.Proofs.YtnmbjalojgccmaaGreat
open Go.RowKit

set_option maxRecDepth 100000 in
theorem mergeCbD (p bx : Nat) (x : Int) (c : Nat) (w : World) (Q : Ending → World → Prop) (h : w.cell? ⟨bx, 0, none⟩ = some (.pointer (some ⟨p, 0, none⟩)))
   (hA : Calls Tryz.prog 198 #[.pointer (some ⟨p, 0, none⟩), .int .i64 x, .float .f64 (nf c)] w fun e w' => e = .returned (.tuple #[]) ∧ Q e w') :
    Calls Tryz.prog 219 #[.int .i64 x, .float .f64 (nf c), .pointer (some ⟨bx, 0, none⟩)] w fun e w' => e = .returned (.bool false) ∧ Q (.returned (.tuple #[])) w' := by
  obtain ⟨y, hy⟩ : ∃ y, y = nf c := ⟨_, rfl⟩
  rw [← hy] at hA ⊢
  clear hy
  go_enter Tryz.func219, Tryz.ntmps219
  go_wp2_with (go_at_call 198; (with_reducible refine hA.mono ?_); rintro e w1 ⟨rfl, hq⟩; have HQ := Lib.hid hq; clear hq hA h)
  go_ret
  exact ⟨rfl, HQ.out⟩

set_option maxRecDepth 100000 in
set_option maxHeartbeats 400000 in
theorem mergeFD_any {other : Int} {O : StoreKind other} (D : ToldKind O) (E : EachKind O) (most om : Int) (xs ys : Bins) (S R : Nat → Prop) (p r : Nat) (w : World) (hne : O.T ≠ 130) (h : (kindD).St most xs S p w) (ho : O.St om ys R r w) (hd : ∀ b, S b → ¬ R b) (hfo : Few other om ys) (hf : Fits2 0 most xs (keptB other om ys)) :
    Calls Tryz.prog 208 #[.pointer (some ⟨p, 0, none⟩), .iface O.T (.pointer (some ⟨r, 0, none⟩))] w fun e w' => MergedTo kindD O most om xs ys S R p r w e w' := by
  have hmf : ∀ (fn : Fn) (first cap : Array Value) (w : World), (Instr.makeFunc fn first cap).run Tryz.prog w = .ok (.func fn first cap) w := fun _ _ _ _ => rfl
  obtain ⟨w1, hw1⟩ : ∃ w1, w1 = w.alloc (.cells #[.pointer (some ⟨p, 0, none⟩)] 130) := ⟨_, rfl⟩
  have hf01 : Fr (fun _ => False) w w1 := by rw [hw1]; exact (Fr.refl _ w).alloc _
  have hbx : w1.heap[w.heap.size]? = some (.cells #[.pointer (some ⟨p, 0, none⟩)] 130 (0, 0)) := by rw [hw1]; exact heap_alloc_new w _
  have hRlt := O.lt om ys R r w ho
  have hSlt := (kindD).lt most xs S p w h
  have ho1 := O.fr om ys R r _ w w1 ho hf01 (fun _ _ h => h)
  have h1 := (kindD).fr most xs S p _ w w1 h hf01 (fun _ _ h => h)
  have hC := merge_cb (K := kindD) (p := p) (bx := w.heap.size) (PT := 130) hf (enters_of Tryz.func219 (by kernel_rfl) rfl) (fun x c w' Q h hA => mergeCbD p w.heap.size x c w' Q h hA)
  have hEe := E.cE om ys R r 219 w.heap.size (MJ kindD most xs p w.heap.size 130) (fun b => S b ∨ b = w.heap.size)
  have hdT : ∀ b, (S b ∨ b = w.heap.size) → ¬ R b := fun b hb hr => hb.elim (fun h => hd b h hr) (fun h => by have := hRlt b hr; omega)
  have HEE := Lib.hid (fun w2 (hw2 : Fr R w1 w2) (hst : O.St om ys R r w2) => hEe w2 hst hfo hC (MJ.start hw1 hw2 h hd hRlt) hdT)
  have HME := Lib.hid (fun w2 e w' (hw2 : Fr R w1 w2) hh => @merged_eached _ _ kindD O most om xs ys S R p r 130 w w1 w2 w' e hw1 hw2 hh)
  have HW1 := Lib.hid hw1
  have HO1 := Lib.hid ho1
  have HH := Lib.hid h
  have HD := Lib.hid hd
  have HBX := Lib.hid hbx
  have hME := E.mE r
  have hEE := E.eE
  have hta := fun w => run_assert_other (P := Tryz.prog) O.T 130 70 171 (.pointer (some ⟨r, 0, none⟩)) Tryz.underlying130 hne (fun w => by kernel_rfl) w
  have hEm := D.cEmp om ys R r w1 ho1 hfo
  rw [hw1] at hEm
  have HEM := Lib.hid hEm
  have hMM := D.mEmp r
  have hMEm := D.eEmp
  clear hw1 hf01 hbx hRlt hSlt ho1 h1 hC hEe hdT h ho hd hf hfo hEm
  by_cases hy : ys = []
  · have hye : ys.isEmpty = true := by rw [hy]; rfl
    have HY := Lib.hid hy
    rw [hye] at HEM
    clear hy hye
    go_enter Tryz.func208, Tryz.ntmps208
    go_wp2_with (go_at_fn D.fEmp; (with_reducible refine HEM.out.mono ?_); rintro e w2 ⟨rfl, hst2, hf2⟩; have HST2 := Lib.hid hst2; have HF2 := Lib.hid hf2; clear hst2 hf2 HEM hMM hMEm)
    go_end0
    exact merged_none HW1.out (by rw [HW1.out]; exact HF2.out) HST2.out HH.out HD.out HY.out
  · have hye : ys.isEmpty = false := by
      cases ys with
      | nil => exact absurd rfl hy
      | cons => rfl
    rw [hye] at HEM
    clear hy hye
    go_enter Tryz.func208, Tryz.ntmps208
    go_wp2_with (first | (go_at_fn D.fEmp; (with_reducible refine HEM.out.mono ?_); rintro e w2 ⟨rfl, hst2, hf2⟩; have HF2 := Lib.hid (show Fr R w1 w2 by rw [HW1.out]; exact hf2); have HX := Lib.hid (HEE.out w2 HF2.out hst2); clear hst2 hf2 HEM hMM hMEm) | (go_at_fn E.fE; (with_reducible refine HX.out.mono ?_); intro e w3 hx; have HXY := Lib.hid hx; obtain ⟨rfl, -⟩ := hx; clear HX hME hEE))
    go_end0
    exact HME.out w2 _ _ HF2.out HXY.out

set_option maxRecDepth 100000 in
theorem mergeCbS (p bx : Nat) (x : Int) (c : Nat) (w : World) (Q : Ending → World → Prop) (h : w.cell? ⟨bx, 0, none⟩ = some (.pointer (some ⟨p, 0, none⟩)))
   (hA : Calls Tryz.prog 243 #[.pointer (some ⟨p, 0, none⟩), .int .i64 x, .float .f64 (nf c)] w fun e w' => e = .returned (.tuple #[]) ∧ Q e w') :
    Calls Tryz.prog 259 #[.int .i64 x, .float .f64 (nf c), .pointer (some ⟨bx, 0, none⟩)] w fun e w' => e = .returned (.bool false) ∧ Q (.returned (.tuple #[])) w' := by
  obtain ⟨y, hy⟩ : ∃ y, y = nf c := ⟨_, rfl⟩
  rw [← hy] at hA ⊢
  clear hy
  go_enter Tryz.func259, Tryz.ntmps259
  go_wp2_with (go_at_call 243; (with_reducible refine hA.mono ?_); rintro e w1 ⟨rfl, hq⟩; have HQ := Lib.hid hq; clear hq hA h)
  go_ret
  exact ⟨rfl, HQ.out⟩

set_option maxRecDepth 100000 in
set_option maxHeartbeats 400000 in
theorem mergeFS_any {other : Int} {O : StoreKind other} (E : EachKind O) (most om : Int) (xs ys : Bins) (S R : Nat → Prop) (p r : Nat) (w : World) (h : (kindS).St most xs S p w) (ho : O.St om ys R r w) (hd : ∀ b, S b → ¬ R b) (hfo : Few other om ys) (hf : Fits2 1 most xs (keptB other om ys)) :
    Calls Tryz.prog 253 #[.pointer (some ⟨p, 0, none⟩), .iface O.T (.pointer (some ⟨r, 0, none⟩))] w fun e w' => MergedTo kindS O most om xs ys S R p r w e w' := by
  have hmf : ∀ (fn : Fn) (first cap : Array Value) (w : World), (Instr.makeFunc fn first cap).run Tryz.prog w = .ok (.func fn first cap) w := fun _ _ _ _ => rfl
  obtain ⟨w1, hw1⟩ : ∃ w1, w1 = w.alloc (.cells #[.pointer (some ⟨p, 0, none⟩)] 132) := ⟨_, rfl⟩
  have hf01 : Fr (fun _ => False) w w1 := by rw [hw1]; exact (Fr.refl _ w).alloc _
  have hbx : w1.heap[w.heap.size]? = some (.cells #[.pointer (some ⟨p, 0, none⟩)] 132 (0, 0)) := by rw [hw1]; exact heap_alloc_new w _
  have hRlt := O.lt om ys R r w ho
  have hSlt := (kindS).lt most xs S p w h
  have ho1 := O.fr om ys R r _ w w1 ho hf01 (fun _ _ h => h)
  have h1 := (kindS).fr most xs S p _ w w1 h hf01 (fun _ _ h => h)
  have hC := merge_cb (K := kindS) (p := p) (bx := w.heap.size) (PT := 132) hf (enters_of Tryz.func259 (by kernel_rfl) rfl) (fun x c w' Q h hA => mergeCbS p w.heap.size x c w' Q h hA)
  have hEe := E.cE om ys R r 259 w.heap.size (MJ kindS most xs p w.heap.size 132) (fun b => S b ∨ b = w.heap.size)
  have hdT : ∀ b, (S b ∨ b = w.heap.size) → ¬ R b := fun b hb hr => hb.elim (fun h => hd b h hr) (fun h => by have := hRlt b hr; omega)
  have HEE := Lib.hid (fun w2 (hw2 : Fr R w1 w2) (hst : O.St om ys R r w2) => hEe w2 hst hfo hC (MJ.start hw1 hw2 h hd hRlt) hdT)
  have HME := Lib.hid (fun w2 e w' (hw2 : Fr R w1 w2) hh => @merged_eached _ _ kindS O most om xs ys S R p r 132 w w1 w2 w' e hw1 hw2 hh)
  have HW1 := Lib.hid hw1
  have HO1 := Lib.hid ho1
  have HH := Lib.hid h
  have HD := Lib.hid hd
  have HBX := Lib.hid hbx
  have hME := E.mE r
  have hEE := E.eE
  clear hw1 hf01 hbx hRlt hSlt ho1 h1 hC hEe hdT h ho hd hf hfo
  have HX := HEE.out w1 (Fr.refl _ _) HO1.out
  rw [HW1.out] at HX
  have HXX := Lib.hid HX
  clear HX
  go_enter Tryz.func253, Tryz.ntmps253
  go_wp2_with (go_at_fn E.fE; (with_reducible refine HXX.out.mono ?_); intro e w3 hx; have HXY := Lib.hid hx; obtain ⟨rfl, -⟩ := hx; clear HXX hME hEE)
  go_end0
  exact HME.out w1 _ _ (Fr.refl _ _) (by rw [HW1.out]; exact HXY.out)

set_option maxRecDepth 100000 in
theorem mergeCbP (p bx : Nat) (x : Int) (c : Nat) (w : World) (Q : Ending → World → Prop) (h : w.cell? ⟨bx, 0, none⟩ = some (.pointer (some ⟨p, 0, none⟩)))
   (hA : Calls Tryz.prog 297 #[.pointer (some ⟨p, 0, none⟩), .int .i64 x, .float .f64 (nf c)] w fun e w' => e = .returned (.tuple #[]) ∧ Q e w') :
    Calls Tryz.prog 319 #[.int .i64 x, .float .f64 (nf c), .pointer (some ⟨bx, 0, none⟩)] w fun e w' => e = .returned (.bool false) ∧ Q (.returned (.tuple #[])) w' := by
  obtain ⟨y, hy⟩ : ∃ y, y = nf c := ⟨_, rfl⟩
  rw [← hy] at hA ⊢
  clear hy
  go_enter Tryz.func319, Tryz.ntmps319
  go_wp2_with (go_at_call 297; (with_reducible refine hA.mono ?_); rintro e w1 ⟨rfl, hq⟩; have HQ := Lib.hid hq; clear hq hA h)
  go_ret
  exact ⟨rfl, HQ.out⟩

set_option maxRecDepth 100000 in
set_option maxHeartbeats 400000 in
theorem mergeFP_any {other : Int} {O : StoreKind other} (E : EachKind O) (most om : Int) (xs ys : Bins) (S R : Nat → Prop) (p r : Nat) (w : World) (hne : O.T ≠ 134) (h : (kindP).St most xs S p w) (ho : O.St om ys R r w) (hd : ∀ b, S b → ¬ R b) (hfo : Few other om ys) (hf : Fits2 2 most xs (keptB other om ys)) :
    Calls Tryz.prog 307 #[.pointer (some ⟨p, 0, none⟩), .iface O.T (.pointer (some ⟨r, 0, none⟩))] w fun e w' => MergedTo kindP O most om xs ys S R p r w e w' := by
  have hmf : ∀ (fn : Fn) (first cap : Array Value) (w : World), (Instr.makeFunc fn first cap).run Tryz.prog w = .ok (.func fn first cap) w := fun _ _ _ _ => rfl
  obtain ⟨w1, hw1⟩ : ∃ w1, w1 = w.alloc (.cells #[.pointer (some ⟨p, 0, none⟩)] 134) := ⟨_, rfl⟩
  have hf01 : Fr (fun _ => False) w w1 := by rw [hw1]; exact (Fr.refl _ w).alloc _
  have hbx : w1.heap[w.heap.size]? = some (.cells #[.pointer (some ⟨p, 0, none⟩)] 134 (0, 0)) := by rw [hw1]; exact heap_alloc_new w _
  have hRlt := O.lt om ys R r w ho
  have hSlt := (kindP).lt most xs S p w h
  have ho1 := O.fr om ys R r _ w w1 ho hf01 (fun _ _ h => h)
  have h1 := (kindP).fr most xs S p _ w w1 h hf01 (fun _ _ h => h)
  have hC := merge_cb (K := kindP) (p := p) (bx := w.heap.size) (PT := 134) hf (enters_of Tryz.func319 (by kernel_rfl) rfl) (fun x c w' Q h hA => mergeCbP p w.heap.size x c w' Q h hA)
  have hEe := E.cE om ys R r 319 w.heap.size (MJ kindP most xs p w.heap.size 134) (fun b => S b ∨ b = w.heap.size)
  have hdT : ∀ b, (S b ∨ b = w.heap.size) → ¬ R b := fun b hb hr => hb.elim (fun h => hd b h hr) (fun h => by have := hRlt b hr; omega)
  have HEE := Lib.hid (fun w2 (hw2 : Fr R w1 w2) (hst : O.St om ys R r w2) => hEe w2 hst hfo hC (MJ.start hw1 hw2 h hd hRlt) hdT)
  have HME := Lib.hid (fun w2 e w' (hw2 : Fr R w1 w2) hh => @merged_eached _ _ kindP O most om xs ys S R p r 134 w w1 w2 w' e hw1 hw2 hh)
  have HW1 := Lib.hid hw1
  have HO1 := Lib.hid ho1
  have HH := Lib.hid h
  have HD := Lib.hid hd
  have HBX := Lib.hid hbx
  have hME := E.mE r
  have hEE := E.eE
  have hta := fun w => run_assert_other (P := Tryz.prog) O.T 134 70 177 (.pointer (some ⟨r, 0, none⟩)) Tryz.underlying134 hne (fun w => by kernel_rfl) w
  clear hw1 hf01 hbx hRlt hSlt ho1 h1 hC hEe hdT h ho hd hf hfo
  go_enter Tryz.func307, Tryz.ntmps307
  go_wp2
  go_quiet (fail)
  obtain ⟨w2, hw2⟩ : ∃ w2, w2 = (w.alloc (.cells #[.pointer (some ⟨p, 0, none⟩)] 134)).drewN nq := ⟨_, rfl⟩
  have hf2 : Fr R w1 w2 := by rw [hw2, HW1.out]; exact (Fr.refl _ _).drewN nq
  have HX := Lib.hid (HEE.out w2 hf2 (O.fr om ys R r (fun _ => False) w1 w2 HO1.out (by rw [hw2, HW1.out]; exact (Fr.refl _ _).drewN nq) (fun _ _ h => h)))
  have HF2 := Lib.hid hf2
  rw [← hw2]
  clear hw2 hf2 HEE
  go_wp2_with (go_at_fn E.fE; (with_reducible refine HX.out.mono ?_); intro e w3 hx; have HXY := Lib.hid hx; obtain ⟨rfl, -⟩ := hx; clear HX hME hEE)
  go_end0
  exact HME.out w2 _ _ HF2.out HXY.out

set_option maxRecDepth 100000 in
theorem mergeCbL (p bx : Nat) (x : Int) (c : Nat) (w : World) (Q : Ending → World → Prop) (h : w.cell? ⟨bx, 0, none⟩ = some (.pointer (some ⟨p, 0, none⟩)))
   (hA : Calls Tryz.prog 324 #[.pointer (some ⟨p, 0, none⟩), .int .i64 x, .float .f64 (nf c)] w fun e w' => e = .returned (.tuple #[]) ∧ Q e w') :
    Calls Tryz.prog 330 #[.int .i64 x, .float .f64 (nf c), .pointer (some ⟨bx, 0, none⟩)] w fun e w' => e = .returned (.bool false) ∧ Q (.returned (.tuple #[])) w' := by
  obtain ⟨y, hy⟩ : ∃ y, y = nf c := ⟨_, rfl⟩
  rw [← hy] at hA ⊢
  clear hy
  go_enter Tryz.func330, Tryz.ntmps330
  go_wp2_with (go_at_call 324; (with_reducible refine hA.mono ?_); rintro e w1 ⟨rfl, hq⟩; have HQ := Lib.hid hq; clear hq hA h)
  go_ret
  exact ⟨rfl, HQ.out⟩

set_option maxRecDepth 100000 in
set_option maxHeartbeats 400000 in
theorem mergeFL_any {other : Int} {O : StoreKind other} (D : ToldKind O) (E : EachKind O) (most om : Int) (xs ys : Bins) (S R : Nat → Prop) (p r : Nat) (w : World) (hne : O.T ≠ 136) (h : (kindL).St most xs S p w) (ho : O.St om ys R r w) (hd : ∀ b, S b → ¬ R b) (hfo : Few other om ys) (hf : Fits2 3 most xs (keptB other om ys)) :
    Calls Tryz.prog 328 #[.pointer (some ⟨p, 0, none⟩), .iface O.T (.pointer (some ⟨r, 0, none⟩))] w fun e w' => MergedTo kindL O most om xs ys S R p r w e w' := by
  have hmf : ∀ (fn : Fn) (first cap : Array Value) (w : World), (Instr.makeFunc fn first cap).run Tryz.prog w = .ok (.func fn first cap) w := fun _ _ _ _ => rfl
  obtain ⟨w1, hw1⟩ : ∃ w1, w1 = w.alloc (.cells #[.pointer (some ⟨p, 0, none⟩)] 136) := ⟨_, rfl⟩
  have hf01 : Fr (fun _ => False) w w1 := by rw [hw1]; exact (Fr.refl _ w).alloc _
  have hbx : w1.heap[w.heap.size]? = some (.cells #[.pointer (some ⟨p, 0, none⟩)] 136 (0, 0)) := by rw [hw1]; exact heap_alloc_new w _
  have hRlt := O.lt om ys R r w ho
  have hSlt := (kindL).lt most xs S p w h
  have ho1 := O.fr om ys R r _ w w1 ho hf01 (fun _ _ h => h)
  have h1 := (kindL).fr most xs S p _ w w1 h hf01 (fun _ _ h => h)
  have hC := merge_cb (K := kindL) (p := p) (bx := w.heap.size) (PT := 136) hf (enters_of Tryz.func330 (by kernel_rfl) rfl) (fun x c w' Q h hA => mergeCbL p w.heap.size x c w' Q h hA)
  have hEe := E.cE om ys R r 330 w.heap.size (MJ kindL most xs p w.heap.size 136) (fun b => S b ∨ b = w.heap.size)
  have hdT : ∀ b, (S b ∨ b = w.heap.size) → ¬ R b := fun b hb hr => hb.elim (fun h => hd b h hr) (fun h => by have := hRlt b hr; omega)
  have HEE := Lib.hid (fun w2 (hw2 : Fr R w1 w2) (hst : O.St om ys R r w2) => hEe w2 hst hfo hC (MJ.start hw1 hw2 h hd hRlt) hdT)
  have HME := Lib.hid (fun w2 e w' (hw2 : Fr R w1 w2) hh => @merged_eached _ _ kindL O most om xs ys S R p r 136 w w1 w2 w' e hw1 hw2 hh)
  have HW1 := Lib.hid hw1
  have HO1 := Lib.hid ho1
  have HH := Lib.hid h
  have HD := Lib.hid hd
  have HBX := Lib.hid hbx
  have hME := E.mE r
  have hEE := E.eE
  have hta := fun w => run_assert_other (P := Tryz.prog) O.T 136 70 179 (.pointer (some ⟨r, 0, none⟩)) Tryz.underlying136 hne (fun w => by kernel_rfl) w
  have hEm := D.cEmp om ys R r w1 ho1 hfo
  rw [hw1] at hEm
  have HEM := Lib.hid hEm
  have hMM := D.mEmp r
  have hMEm := D.eEmp
  clear hw1 hf01 hbx hRlt hSlt ho1 h1 hC hEe hdT h ho hd hf hfo hEm
  by_cases hy : ys = []
  · have hye : ys.isEmpty = true := by rw [hy]; rfl
    have HY := Lib.hid hy
    rw [hye] at HEM
    clear hy hye
    go_enter Tryz.func328, Tryz.ntmps328
    go_wp2_with (go_at_fn D.fEmp; (with_reducible refine HEM.out.mono ?_); rintro e w2 ⟨rfl, hst2, hf2⟩; have HST2 := Lib.hid hst2; have HF2 := Lib.hid hf2; clear hst2 hf2 HEM hMM hMEm)
    go_end0
    exact merged_none HW1.out (by rw [HW1.out]; exact HF2.out) HST2.out HH.out HD.out HY.out
  · have hye : ys.isEmpty = false := by
      cases ys with
      | nil => exact absurd rfl hy
      | cons => rfl
    rw [hye] at HEM
    clear hy hye
    go_enter Tryz.func328, Tryz.ntmps328
    go_wp2_with (first | (go_at_fn D.fEmp; (with_reducible refine HEM.out.mono ?_); rintro e w2 ⟨rfl, hst2, hf2⟩; have HF2 := Lib.hid (show Fr R w1 w2 by rw [HW1.out]; exact hf2); have HX := Lib.hid (HEE.out w2 HF2.out hst2); clear hst2 hf2 HEM hMM hMEm) | (go_at_fn E.fE; (with_reducible refine HX.out.mono ?_); intro e w3 hx; have HXY := Lib.hid hx; obtain ⟨rfl, -⟩ := hx; clear HX hME hEE))
    go_end0
    exact HME.out w2 _ _ HF2.out HXY.out

set_option maxRecDepth 100000 in
theorem mergeCbH (p bx : Nat) (x : Int) (c : Nat) (w : World) (Q : Ending → World → Prop) (h : w.cell? ⟨bx, 0, none⟩ = some (.pointer (some ⟨p, 0, none⟩)))
   (hA : Calls Tryz.prog 336 #[.pointer (some ⟨p, 0, none⟩), .int .i64 x, .float .f64 (nf c)] w fun e w' => e = .returned (.tuple #[]) ∧ Q e w') :
    Calls Tryz.prog 342 #[.int .i64 x, .float .f64 (nf c), .pointer (some ⟨bx, 0, none⟩)] w fun e w' => e = .returned (.bool false) ∧ Q (.returned (.tuple #[])) w' := by
  obtain ⟨y, hy⟩ : ∃ y, y = nf c := ⟨_, rfl⟩
  rw [← hy] at hA ⊢
  clear hy
  go_enter Tryz.func342, Tryz.ntmps342
  go_wp2_with (go_at_call 336; (with_reducible refine hA.mono ?_); rintro e w1 ⟨rfl, hq⟩; have HQ := Lib.hid hq; clear hq hA h)
  go_ret
  exact ⟨rfl, HQ.out⟩

set_option maxRecDepth 100000 in
set_option maxHeartbeats 400000 in
theorem mergeFH_any {other : Int} {O : StoreKind other} (D : ToldKind O) (E : EachKind O) (most om : Int) (xs ys : Bins) (S R : Nat → Prop) (p r : Nat) (w : World) (hne : O.T ≠ 138) (h : (kindH).St most xs S p w) (ho : O.St om ys R r w) (hd : ∀ b, S b → ¬ R b) (hfo : Few other om ys) (hf : Fits2 4 most xs (keptB other om ys)) :
    Calls Tryz.prog 340 #[.pointer (some ⟨p, 0, none⟩), .iface O.T (.pointer (some ⟨r, 0, none⟩))] w fun e w' => MergedTo kindH O most om xs ys S R p r w e w' := by
  have hmf : ∀ (fn : Fn) (first cap : Array Value) (w : World), (Instr.makeFunc fn first cap).run Tryz.prog w = .ok (.func fn first cap) w := fun _ _ _ _ => rfl
  obtain ⟨w1, hw1⟩ : ∃ w1, w1 = w.alloc (.cells #[.pointer (some ⟨p, 0, none⟩)] 138) := ⟨_, rfl⟩
  have hf01 : Fr (fun _ => False) w w1 := by rw [hw1]; exact (Fr.refl _ w).alloc _
  have hbx : w1.heap[w.heap.size]? = some (.cells #[.pointer (some ⟨p, 0, none⟩)] 138 (0, 0)) := by rw [hw1]; exact heap_alloc_new w _
  have hRlt := O.lt om ys R r w ho
  have hSlt := (kindH).lt most xs S p w h
  have ho1 := O.fr om ys R r _ w w1 ho hf01 (fun _ _ h => h)
  have h1 := (kindH).fr most xs S p _ w w1 h hf01 (fun _ _ h => h)
  have hC := merge_cb (K := kindH) (p := p) (bx := w.heap.size) (PT := 138) hf (enters_of Tryz.func342 (by kernel_rfl) rfl) (fun x c w' Q h hA => mergeCbH p w.heap.size x c w' Q h hA)
  have hEe := E.cE om ys R r 342 w.heap.size (MJ kindH most xs p w.heap.size 138) (fun b => S b ∨ b = w.heap.size)
  have hdT : ∀ b, (S b ∨ b = w.heap.size) → ¬ R b := fun b hb hr => hb.elim (fun h => hd b h hr) (fun h => by have := hRlt b hr; omega)
  have HEE := Lib.hid (fun w2 (hw2 : Fr R w1 w2) (hst : O.St om ys R r w2) => hEe w2 hst hfo hC (MJ.start hw1 hw2 h hd hRlt) hdT)
  have HME := Lib.hid (fun w2 e w' (hw2 : Fr R w1 w2) hh => @merged_eached _ _ kindH O most om xs ys S R p r 138 w w1 w2 w' e hw1 hw2 hh)
  have HW1 := Lib.hid hw1
  have HO1 := Lib.hid ho1
  have HH := Lib.hid h
  have HD := Lib.hid hd
  have HBX := Lib.hid hbx
  have hME := E.mE r
  have hEE := E.eE
  have hta := fun w => run_assert_other (P := Tryz.prog) O.T 138 70 180 (.pointer (some ⟨r, 0, none⟩)) Tryz.underlying138 hne (fun w => by kernel_rfl) w
  have hEm := D.cEmp om ys R r w1 ho1 hfo
  rw [hw1] at hEm
  have HEM := Lib.hid hEm
  have hMM := D.mEmp r
  have hMEm := D.eEmp
  clear hw1 hf01 hbx hRlt hSlt ho1 h1 hC hEe hdT h ho hd hf hfo hEm
  by_cases hy : ys = []
  · have hye : ys.isEmpty = true := by rw [hy]; rfl
    have HY := Lib.hid hy
    rw [hye] at HEM
    clear hy hye
    go_enter Tryz.func340, Tryz.ntmps340
    go_wp2_with (go_at_fn D.fEmp; (with_reducible refine HEM.out.mono ?_); rintro e w2 ⟨rfl, hst2, hf2⟩; have HST2 := Lib.hid hst2; have HF2 := Lib.hid hf2; clear hst2 hf2 HEM hMM hMEm)
    go_end0
    exact merged_none HW1.out (by rw [HW1.out]; exact HF2.out) HST2.out HH.out HD.out HY.out
  · have hye : ys.isEmpty = false := by
      cases ys with
      | nil => exact absurd rfl hy
      | cons => rfl
    rw [hye] at HEM
    clear hy hye
    go_enter Tryz.func340, Tryz.ntmps340
    go_wp2_with (first | (go_at_fn D.fEmp; (with_reducible refine HEM.out.mono ?_); rintro e w2 ⟨rfl, hst2, hf2⟩; have HF2 := Lib.hid (show Fr R w1 w2 by rw [HW1.out]; exact hf2); have HX := Lib.hid (HEE.out w2 HF2.out hst2); clear hst2 hf2 HEM hMM hMEm) | (go_at_fn E.fE; (with_reducible refine HX.out.mono ?_); intro e w3 hx; have HXY := Lib.hid hx; obtain ⟨rfl, -⟩ := hx; clear HX hME hEE))
    go_end0
    exact HME.out w2 _ _ HF2.out HXY.out

end Go.Proofs.YtnmbjalojgccmaaGreat
end
/-
  MergeWith of a store that is empty, for the kinds that ask for it.
-/
section
namespace Go.Proofs.YtnmbjalojgccmaaGreat
open Go.RowKit

set_option maxRecDepth 100000 in
set_option maxHeartbeats 400000 in
theorem mergeND_any {other : Int} {O : StoreKind other} (D : ToldKind O) (most om : Int) (xs ys : Bins) (S R : Nat → Prop) (p r : Nat) (w : World) (h : (kindD).St most xs S p w) (ho : O.St om ys R r w) (hd : ∀ b, S b → ¬ R b) (hfo : Few other om ys) (hy : ys = []) :
    Calls Tryz.prog 208 #[.pointer (some ⟨p, 0, none⟩), .iface O.T (.pointer (some ⟨r, 0, none⟩))] w fun e w' => MergedTo kindD O most om xs ys S R p r w e w' := by
  have hmf : ∀ (fn : Fn) (first cap : Array Value) (w : World), (Instr.makeFunc fn first cap).run Tryz.prog w = .ok (.func fn first cap) w := fun _ _ _ _ => rfl
  obtain ⟨w1, hw1⟩ : ∃ w1, w1 = w.alloc (.cells #[.pointer (some ⟨p, 0, none⟩)] 130) := ⟨_, rfl⟩
  have hf01 : Fr (fun _ => False) w w1 := by rw [hw1]; exact (Fr.refl _ w).alloc _
  have hbx : w1.heap[w.heap.size]? = some (.cells #[.pointer (some ⟨p, 0, none⟩)] 130 (0, 0)) := by rw [hw1]; exact heap_alloc_new w _
  have hRlt := O.lt om ys R r w ho
  have hSlt := (kindD).lt most xs S p w h
  have ho1 := O.fr om ys R r _ w w1 ho hf01 (fun _ _ h => h)
  have h1 := (kindD).fr most xs S p _ w w1 h hf01 (fun _ _ h => h)
  have HW1 := Lib.hid hw1
  have HO1 := Lib.hid ho1
  have HH := Lib.hid h
  have HD := Lib.hid hd
  have HBX := Lib.hid hbx
  have hEm := D.cEmp om ys R r w1 ho1 hfo
  rw [hw1] at hEm
  have HEM := Lib.hid hEm
  have hMM := D.mEmp r
  have hMEm := D.eEmp
  clear hw1 hf01 hbx hRlt hSlt ho1 h1 h ho hd hfo hEm
  have hye : ys.isEmpty = true := by rw [hy]; rfl
  have HY := Lib.hid hy
  rw [hye] at HEM
  clear hy hye
  go_enter Tryz.func208, Tryz.ntmps208
  go_wp2_with (go_at_fn D.fEmp; (with_reducible refine HEM.out.mono ?_); rintro e w2 ⟨rfl, hst2, hf2⟩; have HST2 := Lib.hid hst2; have HF2 := Lib.hid hf2; clear hst2 hf2 HEM hMM hMEm)
  go_end0
  exact merged_none HW1.out (by rw [HW1.out]; exact HF2.out) HST2.out HH.out HD.out HY.out

set_option maxRecDepth 100000 in
set_option maxHeartbeats 400000 in
theorem mergeNL_any {other : Int} {O : StoreKind other} (D : ToldKind O) (most om : Int) (xs ys : Bins) (S R : Nat → Prop) (p r : Nat) (w : World) (h : (kindL).St most xs S p w) (ho : O.St om ys R r w) (hd : ∀ b, S b → ¬ R b) (hfo : Few other om ys) (hy : ys = []) :
    Calls Tryz.prog 328 #[.pointer (some ⟨p, 0, none⟩), .iface O.T (.pointer (some ⟨r, 0, none⟩))] w fun e w' => MergedTo kindL O most om xs ys S R p r w e w' := by
  have hmf : ∀ (fn : Fn) (first cap : Array Value) (w : World), (Instr.makeFunc fn first cap).run Tryz.prog w = .ok (.func fn first cap) w := fun _ _ _ _ => rfl
  obtain ⟨w1, hw1⟩ : ∃ w1, w1 = w.alloc (.cells #[.pointer (some ⟨p, 0, none⟩)] 136) := ⟨_, rfl⟩
  have hf01 : Fr (fun _ => False) w w1 := by rw [hw1]; exact (Fr.refl _ w).alloc _
  have hbx : w1.heap[w.heap.size]? = some (.cells #[.pointer (some ⟨p, 0, none⟩)] 136 (0, 0)) := by rw [hw1]; exact heap_alloc_new w _
  have hRlt := O.lt om ys R r w ho
  have hSlt := (kindL).lt most xs S p w h
  have ho1 := O.fr om ys R r _ w w1 ho hf01 (fun _ _ h => h)
  have h1 := (kindL).fr most xs S p _ w w1 h hf01 (fun _ _ h => h)
  have HW1 := Lib.hid hw1
  have HO1 := Lib.hid ho1
  have HH := Lib.hid h
  have HD := Lib.hid hd
  have HBX := Lib.hid hbx
  have hEm := D.cEmp om ys R r w1 ho1 hfo
  rw [hw1] at hEm
  have HEM := Lib.hid hEm
  have hMM := D.mEmp r
  have hMEm := D.eEmp
  clear hw1 hf01 hbx hRlt hSlt ho1 h1 h ho hd hfo hEm
  have hye : ys.isEmpty = true := by rw [hy]; rfl
  have HY := Lib.hid hy
  rw [hye] at HEM
  clear hy hye
  go_enter Tryz.func328, Tryz.ntmps328
  go_wp2_with (go_at_fn D.fEmp; (with_reducible refine HEM.out.mono ?_); rintro e w2 ⟨rfl, hst2, hf2⟩; have HST2 := Lib.hid hst2; have HF2 := Lib.hid hf2; clear hst2 hf2 HEM hMM hMEm)
  go_end0
  exact merged_none HW1.out (by rw [HW1.out]; exact HF2.out) HST2.out HH.out HD.out HY.out

set_option maxRecDepth 100000 in
set_option maxHeartbeats 400000 in
theorem mergeNH_any {other : Int} {O : StoreKind other} (D : ToldKind O) (most om : Int) (xs ys : Bins) (S R : Nat → Prop) (p r : Nat) (w : World) (h : (kindH).St most xs S p w) (ho : O.St om ys R r w) (hd : ∀ b, S b → ¬ R b) (hfo : Few other om ys) (hy : ys = []) :
    Calls Tryz.prog 340 #[.pointer (some ⟨p, 0, none⟩), .iface O.T (.pointer (some ⟨r, 0, none⟩))] w fun e w' => MergedTo kindH O most om xs ys S R p r w e w' := by
  have hmf : ∀ (fn : Fn) (first cap : Array Value) (w : World), (Instr.makeFunc fn first cap).run Tryz.prog w = .ok (.func fn first cap) w := fun _ _ _ _ => rfl
  obtain ⟨w1, hw1⟩ : ∃ w1, w1 = w.alloc (.cells #[.pointer (some ⟨p, 0, none⟩)] 138) := ⟨_, rfl⟩
  have hf01 : Fr (fun _ => False) w w1 := by rw [hw1]; exact (Fr.refl _ w).alloc _
  have hbx : w1.heap[w.heap.size]? = some (.cells #[.pointer (some ⟨p, 0, none⟩)] 138 (0, 0)) := by rw [hw1]; exact heap_alloc_new w _
  have hRlt := O.lt om ys R r w ho
  have hSlt := (kindH).lt most xs S p w h
  have ho1 := O.fr om ys R r _ w w1 ho hf01 (fun _ _ h => h)
  have h1 := (kindH).fr most xs S p _ w w1 h hf01 (fun _ _ h => h)
  have HW1 := Lib.hid hw1
  have HO1 := Lib.hid ho1
  have HH := Lib.hid h
  have HD := Lib.hid hd
  have HBX := Lib.hid hbx
  have hEm := D.cEmp om ys R r w1 ho1 hfo
  rw [hw1] at hEm
  have HEM := Lib.hid hEm
  have hMM := D.mEmp r
  have hMEm := D.eEmp
  clear hw1 hf01 hbx hRlt hSlt ho1 h1 h ho hd hfo hEm
  have hye : ys.isEmpty = true := by rw [hy]; rfl
  have HY := Lib.hid hy
  rw [hye] at HEM
  clear hy hye
  go_enter Tryz.func340, Tryz.ntmps340
  go_wp2_with (go_at_fn D.fEmp; (with_reducible refine HEM.out.mono ?_); rintro e w2 ⟨rfl, hst2, hf2⟩; have HST2 := Lib.hid hst2; have HF2 := Lib.hid hf2; clear hst2 hf2 HEM hMM hMEm)
  go_end0
  exact merged_none HW1.out (by rw [HW1.out]; exact HF2.out) HST2.out HH.out HD.out HY.out

end Go.Proofs.YtnmbjalojgccmaaGreat
end
