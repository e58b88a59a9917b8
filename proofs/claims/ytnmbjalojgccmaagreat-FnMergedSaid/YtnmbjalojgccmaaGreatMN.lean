/-
  impl.Merged, for every pair of kinds.
-/
import Derived.Test.YtnmbjalojgccmaaGreatTG
import Derived.Test.YtnmbjalojgccmaaGreatMF
import Derived.Deep.QuietTactic
import Derived.BigQuiet
import Derived.Test.YtnmbjalojgccmaaGreatMM
import Derived.Test.YtnmbjalojgccmaaGreatMI
import Derived.Test.YtnmbjalojgccmaaGreatMK
section
namespace Go.Proofs.YtnmbjalojgccmaaGreat
open Go.RowKit

/-- MergeWith, of a store of one kind into a store of another. -/
structure MergeKind {kind other : Int} (K : StoreKind kind) (O : StoreKind other) where
  fM : FuncId
  mM : ∀ p w, (method 405 K.T (.pointer (some ⟨p, 0, none⟩)) "MergeWith").run Tryz.prog w = .ok (fM, .pointer (some ⟨p, 0, none⟩)) w
  eM : ∀ args w, (callFunc fM args).run Tryz.prog w = .ok (.enter fM args) w
  nM : ∀ p w, (nilAhead 405 K.T (.pointer (some ⟨p, 0, none⟩)) "MergeWith").run Tryz.prog w = .ok (some false) w
  cM : ∀ most om xs ys S R p r w, K.St most xs S p w → O.St om ys R r w → (∀ b, S b → ¬ R b) → Few other om ys → Fits2 kind most xs (keptB other om ys) → (3 ≤ kind → kind = other → xs ≠ []) →
    Calls Tryz.prog fM #[.pointer (some ⟨p, 0, none⟩), .iface O.T (.pointer (some ⟨r, 0, none⟩))] w fun e w' => MergedTo K O most om xs ys S R p r w e w'

theorem Fits2.of {kind other most om : Int} {xs ys : Bins} (hf : Few kind most xs) (hfo : Few other om ys) (hn : xs.length ≤ 60) (hno : ys.length ≤ 60) (ht : Go.Proofs.YtnmbjalojgccmaaGreat.tot xs + Go.Proofs.YtnmbjalojgccmaaGreat.tot ys < 1000000000) : Fits2 kind most xs (keptB other om ys) :=
  ⟨hf.known, hf.inR, hf.pos, kept_inR hfo.known hfo.inR, kept_pos other om hfo.pos, by rw [kept_tot]; exact ht, by have := kept_len other om ys; omega⟩
theorem Fits2.few {kind other most om : Int} {xs ys : Bins} (h : Fits2 kind most xs (keptB other om ys)) : Few kind most (xs ++ keptB other om ys) :=
  ⟨h.known, fun q hq => (List.mem_append.1 hq).elim (h.inR q) (h.inR2 q), fun q hq => (List.mem_append.1 hq).elim (h.pos q) (h.pos2 q), by rw [tot_append]; exact h.tot, by rw [List.length_append]; have := h.len; omega⟩

set_option maxRecDepth 100000 in
set_option maxHeartbeats 1000000 in
theorem merged1_any {kind other : Int} {K : StoreKind kind} {O : StoreKind other} (V : MergeKind K O) (most om : Int) (ao ap : Option Addr) (cp cq : Nat) (xs ys : Bins) (b0 b1 b2 b3 b4 b5 : Nat) (w : World) (hf : Few kind most xs) (hfo : Few other om ys) (hl : Lie2 w ao (fb xs)) (hlo : Lie2 w ap (fb ys)) (hn : xs.length ≤ 60) (hno : ys.length ≤ 60) (ht : tot xs + tot ys < 1000000000) (hg : 3 ≤ kind → kind = other → xs ≠ [])
   (h0 : w.cell? ⟨b0, 0, none⟩ = some (.int .i64 kind)) (h1 : w.cell? ⟨b1, 0, none⟩ = some (.int .i64 most)) (h2 : w.cell? ⟨b2, 0, none⟩ = some (.slice ao xs.length cp)) (h3 : w.cell? ⟨b3, 0, none⟩ = some (.int .i64 other)) (h4 : w.cell? ⟨b4, 0, none⟩ = some (.int .i64 om)) (h5 : w.cell? ⟨b5, 0, none⟩ = some (.slice ap ys.length cq)) :
    Calls Tryz.prog 39 #[.pointer (some ⟨b0, 0, none⟩), .pointer (some ⟨b1, 0, none⟩), .pointer (some ⟨b2, 0, none⟩), .pointer (some ⟨b3, 0, none⟩), .pointer (some ⟨b4, 0, none⟩), .pointer (some ⟨b5, 0, none⟩)] w fun e w' => GivesStore K most (xs ++ keptB other om ys) w e w' := by
  have hmf : ∀ (fn : Fn) (first cap : Array Value) (w : World), (Instr.makeFunc fn first cap).run Tryz.prog w = .ok (.func fn first cap) w := fun _ _ _ _ => rfl
  have HF := filled_any K most ao cp xs w hf.known hl hf.inR hf.pos hf.tot hn
  have hb3 := World.block_lt_of_cell? w _ h3
  have hb4 := World.block_lt_of_cell? w _ h4
  have hb5 := World.block_lt_of_cell? w _ h5
  have HFO := Lib.hid (fun w2 (hb : Below w.heap.size w w2) => filled_any O om ap cq ys w2 hfo.known (hlo.later hb) hfo.inR hfo.pos hfo.tot hno)
  have HFEW := Lib.hid hfo
  have HFIT : Hid (Fits2 kind most xs (keptB other om ys)) := Fits2.of hf hfo hn hno ht
  have HGG := Lib.hid hg
  clear hl hlo hf hfo hn hno ht hg
  go_enter Tryz.func39, Tryz.ntmps39
  go_wp2_with fail
  refine HF.mono ?_
  clear HF
  rintro e w1 ⟨p, S, rfl, hst, hS, hb⟩
  have hin : ∀ w2, Below w1.heap.size w1 w2 ∨ Fr S w1 w2 → w2.cell? ⟨b3, 0, none⟩ = some (.int .i64 other) ∧ w2.cell? ⟨b4, 0, none⟩ = some (.int .i64 om) ∧ w2.cell? ⟨b5, 0, none⟩ = some (.slice ap ys.length cq) := fun w2 h => by
    have hs := hb.size
    have c3 := (hb.cell hb3).trans h3
    have c4 := (hb.cell hb4).trans h4
    have c5 := (hb.cell hb5).trans h5
    rcases h with h | h
    · exact ⟨(h.cell (show b3 < _ by omega)).trans c3, (h.cell (show b4 < _ by omega)).trans c4, (h.cell (show b5 < _ by omega)).trans c5⟩
    · exact ⟨h.cell c3 (fun h2 => by have : w.heap.size ≤ b3 := hS _ h2; omega), h.cell c4 (fun h2 => by have : w.heap.size ≤ b4 := hS _ h2; omega), h.cell c5 (fun h2 => by have : w.heap.size ≤ b5 := hS _ h2; omega)⟩
  have hs0 := hin w1 (.inl (Below.refl _ w1))
  have hs1 := hin w1.drew (.inl (Below.refl _ w1).drew)
  have HFO1 := HFO.out w1.drew (hb.trans ((Below.refl _ w1).drew.mono hb.size))
  have hM := V.mM p
  have hE := V.eM
  have hNA := V.nM p
  have HST1 : Hid (K.St most xs S p w1.drew) := K.fr most xs S p (fun _ => False) w1 w1.drew hst (Fr.refl _ w1).drew (fun _ _ h => h)
  have HIN := Lib.hid hin
  have HS := Lib.hid hS
  have HB := Lib.hid hb
  clear hst hS hb hin h0 h1 h2 h3 h4 h5 hb3 hb4 hb5 HFO
  go_wp2
  go_region_held3 (fun W' => W'.cell? ⟨b3, 0, none⟩ = some (.int .i64 other) ∧ W'.cell? ⟨b4, 0, none⟩ = some (.int .i64 om) ∧ W'.cell? ⟨b5, 0, none⟩ = some (.slice ap ys.length cq))
    (first | (with_reducible exact hs0) | (with_reducible exact hs1) | (with_reducible exact hs2) | (with_reducible exact hs3))
    (first | (go_at_call 35; refine HFO1.mono ?_; rintro e w2 ⟨r, R, rfl, hst2, hR, hb2⟩; have hs2 := HIN.out w2 (.inl ((Below.refl _ w1).drew.trans hb2)); have HST2 := Lib.hid hst2; have HR := Lib.hid hR; have HB2 := Lib.hid hb2; clear hst2 hR hb2) | (go_at_fn V.fM; refine (V.cM most om xs ys S R p r w2 (K.fr most xs S p (fun _ => False) w1.drew w2 HST1.out (fr_none_of_below HB2.out) (fun _ _ h => h)) HST2.out (fun b hb hr => Nat.lt_irrefl _ (Nat.lt_of_lt_of_le (K.lt most xs S p w1.drew HST1.out b hb) (HR.out b hr))) HFEW.out HFIT.out HGG.out).mono ?_; rintro e w3 ⟨rfl, hso, S', hst3, hf3, hS3⟩; have hff := ((Fr.refl _ w1).drew.trans (fr_none_of_below HB2.out) (U := S) (fun _ _ h => (show False from h).elim) (fun _ _ h => h.elim)).trans hf3 (U := S) (fun _ _ h => h) (fun i hi h => h.elim id (fun h2 => absurd hi (Nat.not_lt.2 (HR.out i h2)))); have hs3 := HIN.out w3 (.inr hff); have HST3 := Lib.hid hst3; have HS3 := Lib.hid hS3; have HFF := Lib.hid hff; clear hso hst3 hf3 hS3 hff) | fail)
  all_goals
    go_wp2
    go_ret2
    refine ⟨p, S', rfl, HST3.out, fun b hb => ?_, (fr_none_of_below HB.out).trans HFF.out (fun _ _ h => h) (fun i hi h => absurd hi (Nat.not_lt.2 (HS.out i h)))⟩
    rcases HS3.out b hb with h | h
    · exact HS.out b h
    · have e1 := HB.out.size
      have e2 : w1.heap.size ≤ w2.heap.size := HB2.out.size
      omega
end Go.Proofs.YtnmbjalojgccmaaGreat
end
/-
  MergeWith, for every pair of kinds.
-/
section
namespace Go.Proofs.YtnmbjalojgccmaaGreat
open Go.RowKit

section
variable {other : Int} {O : StoreKind other}
def toD (D : ToldKind O) (E : EachKind O) (hne : O.T ≠ 130) : MergeKind kindD O where
  fM := 208
  mM := fun _ _ => by kernel_rfl
  eM := enters_of Tryz.func208 (by kernel_rfl) rfl
  nM := fun _ _ => by kernel_rfl
  cM := fun most om xs ys S R p r w h ho hd hfo hf _ => mergeFD_any D E most om xs ys S R p r w hne h ho hd hfo hf
def toS (E : EachKind O) : MergeKind kindS O where
  fM := 253
  mM := fun _ _ => by kernel_rfl
  eM := enters_of Tryz.func253 (by kernel_rfl) rfl
  nM := fun _ _ => by kernel_rfl
  cM := fun most om xs ys S R p r w h ho hd hfo hf _ => mergeFS_any E most om xs ys S R p r w h ho hd hfo hf
def toP (E : EachKind O) (hne : O.T ≠ 134) : MergeKind kindP O where
  fM := 307
  mM := fun _ _ => by kernel_rfl
  eM := enters_of Tryz.func307 (by kernel_rfl) rfl
  nM := fun _ _ => by kernel_rfl
  cM := fun most om xs ys S R p r w h ho hd hfo hf _ => mergeFP_any E most om xs ys S R p r w hne h ho hd hfo hf
def toL (D : ToldKind O) (E : EachKind O) (hne : O.T ≠ 136) : MergeKind kindL O where
  fM := 328
  mM := fun _ _ => by kernel_rfl
  eM := enters_of Tryz.func328 (by kernel_rfl) rfl
  nM := fun _ _ => by kernel_rfl
  cM := fun most om xs ys S R p r w h ho hd hfo hf _ => mergeFL_any D E most om xs ys S R p r w hne h ho hd hfo hf
def toH (D : ToldKind O) (E : EachKind O) (hne : O.T ≠ 138) : MergeKind kindH O where
  fM := 340
  mM := fun _ _ => by kernel_rfl
  eM := enters_of Tryz.func340 (by kernel_rfl) rfl
  nM := fun _ _ => by kernel_rfl
  cM := fun most om xs ys S R p r w h ho hd hfo hf _ => mergeFH_any D E most om xs ys S R p r w hne h ho hd hfo hf
end
def sameD : MergeKind kindD kindD where
  fM := 208
  mM := fun _ _ => by kernel_rfl
  eM := enters_of Tryz.func208 (by kernel_rfl) rfl
  nM := fun _ _ => by kernel_rfl
  cM := fun most om xs ys S R p r w h ho hd hfo hf _ => by
    by_cases hy : ys = []
    · exact mergeND_any toldD most om xs ys S R p r w h ho hd hfo hy
    · exact mergeDD_any most om xs ys S R p r w h ho hd hy hfo hf
def sameP : MergeKind kindP kindP where
  fM := 307
  mM := fun _ _ => by kernel_rfl
  eM := enters_of Tryz.func307 (by kernel_rfl) rfl
  nM := fun _ _ => by kernel_rfl
  cM := fun most om xs ys S R p r w h ho hd hfo hf _ => mergePP_any most om xs ys S R p r w h ho hd hfo hf
def sameL : MergeKind kindL kindL where
  fM := 328
  mM := fun _ _ => by kernel_rfl
  eM := enters_of Tryz.func328 (by kernel_rfl) rfl
  nM := fun _ _ => by kernel_rfl
  cM := fun most om xs ys S R p r w h ho hd hfo hf hg => by
    by_cases hy : ys = []
    · exact mergeNL_any toldL most om xs ys S R p r w h ho hd hfo hy
    · exact mergeLL_any most om xs ys S R p r w h ho hd (hg (by decide) rfl) hy hfo hf
def sameH : MergeKind kindH kindH where
  fM := 340
  mM := fun _ _ => by kernel_rfl
  eM := enters_of Tryz.func340 (by kernel_rfl) rfl
  nM := fun _ _ => by kernel_rfl
  cM := fun most om xs ys S R p r w h ho hd hfo hf hg => by
    by_cases hy : ys = []
    · exact mergeNH_any toldH most om xs ys S R p r w h ho hd hfo hy
    · exact mergeHH_any most om xs ys S R p r w h ho hd (hg (by decide) rfl) hy hfo hf

theorem merge_all {kind most other om : Int} (h : knownB kind most = true) (h2 : knownB other om = true) : ∃ (K : StoreKind kind) (O : StoreKind other), Nonempty (ToldKind K) ∧ Nonempty (MergeKind K O) := by
  unfold knownB at h h2
  simp at h h2
  have a : kind = 0 ∨ kind = 1 ∨ kind = 2 ∨ kind = 3 ∨ kind = 4 := by omega
  have b : other = 0 ∨ other = 1 ∨ other = 2 ∨ other = 3 ∨ other = 4 := by omega
  clear h h2
  rcases a with rfl | rfl | rfl | rfl | rfl
  · rcases b with rfl | rfl | rfl | rfl | rfl
    · exact ⟨kindD, kindD, ⟨toldD⟩, ⟨sameD⟩⟩
    · exact ⟨kindD, kindS, ⟨toldD⟩, ⟨toD toldS eachS (by decide)⟩⟩
    · exact ⟨kindD, kindP, ⟨toldD⟩, ⟨toD toldP eachP (by decide)⟩⟩
    · exact ⟨kindD, kindL, ⟨toldD⟩, ⟨toD toldL eachL (by decide)⟩⟩
    · exact ⟨kindD, kindH, ⟨toldD⟩, ⟨toD toldH eachH (by decide)⟩⟩
  · rcases b with rfl | rfl | rfl | rfl | rfl
    · exact ⟨kindS, kindD, ⟨toldS⟩, ⟨toS eachD⟩⟩
    · exact ⟨kindS, kindS, ⟨toldS⟩, ⟨toS eachS⟩⟩
    · exact ⟨kindS, kindP, ⟨toldS⟩, ⟨toS eachP⟩⟩
    · exact ⟨kindS, kindL, ⟨toldS⟩, ⟨toS eachL⟩⟩
    · exact ⟨kindS, kindH, ⟨toldS⟩, ⟨toS eachH⟩⟩
  · rcases b with rfl | rfl | rfl | rfl | rfl
    · exact ⟨kindP, kindD, ⟨toldP⟩, ⟨toP eachD (by decide)⟩⟩
    · exact ⟨kindP, kindS, ⟨toldP⟩, ⟨toP eachS (by decide)⟩⟩
    · exact ⟨kindP, kindP, ⟨toldP⟩, ⟨sameP⟩⟩
    · exact ⟨kindP, kindL, ⟨toldP⟩, ⟨toP eachL (by decide)⟩⟩
    · exact ⟨kindP, kindH, ⟨toldP⟩, ⟨toP eachH (by decide)⟩⟩
  · rcases b with rfl | rfl | rfl | rfl | rfl
    · exact ⟨kindL, kindD, ⟨toldL⟩, ⟨toL toldD eachD (by decide)⟩⟩
    · exact ⟨kindL, kindS, ⟨toldL⟩, ⟨toL toldS eachS (by decide)⟩⟩
    · exact ⟨kindL, kindP, ⟨toldL⟩, ⟨toL toldP eachP (by decide)⟩⟩
    · exact ⟨kindL, kindL, ⟨toldL⟩, ⟨sameL⟩⟩
    · exact ⟨kindL, kindH, ⟨toldL⟩, ⟨toL toldH eachH (by decide)⟩⟩
  · rcases b with rfl | rfl | rfl | rfl | rfl
    · exact ⟨kindH, kindD, ⟨toldH⟩, ⟨toH toldD eachD (by decide)⟩⟩
    · exact ⟨kindH, kindS, ⟨toldH⟩, ⟨toH toldS eachS (by decide)⟩⟩
    · exact ⟨kindH, kindP, ⟨toldH⟩, ⟨toH toldP eachP (by decide)⟩⟩
    · exact ⟨kindH, kindL, ⟨toldH⟩, ⟨toH toldL eachL (by decide)⟩⟩
    · exact ⟨kindH, kindH, ⟨toldH⟩, ⟨sameH⟩⟩
end Go.Proofs.YtnmbjalojgccmaaGreat
end
/-
  impl.Merged, the whole. (Printed by gen_mergedfn.py.)
-/
section
namespace Go.Proofs.YtnmbjalojgccmaaGreat
open Go.RowKit

set_option maxRecDepth 100000 in
set_option maxHeartbeats 1000000 in
theorem merged_any {kind other : Int} {K : StoreKind kind} {O : StoreKind other} (D : ToldKind K) (V : MergeKind K O) (most om : Int) (ao ap : Option Addr) (cp cq : Nat) (xs ys : Bins) (w : World) (hfew : Few kind most xs) (hfo : Few other om ys) (hl : Lie2 w ao (fb xs)) (hlo : Lie2 w ap (fb ys)) (hn : xs.length ≤ 60) (hno : ys.length ≤ 60) (ht : tot xs + tot ys < 1000000000) (hg : 3 ≤ kind → kind = other → xs ≠ []) :
    Calls Tryz.prog 21 #[.int .i64 kind, .int .i64 most, .slice ao xs.length cp, .int .i64 other, .int .i64 om, .slice ap ys.length cq] w fun e w' => TellsState (xs ++ keptB other om ys) (keptB kind most (xs ++ keptB other om ys)) w e w' := by
  have hmf : ∀ (fn : Fn) (first cap : Array Value) (w : World), (Instr.makeFunc fn first cap).run Tryz.prog w = .ok (.func fn first cap) w := fun _ _ _ _ => rfl
  have hfm : Few kind most (xs ++ keptB other om ys) := (Fits2.of hfew hfo hn hno ht).few
  obtain ⟨W, hW⟩ : ∃ W, W = ((((((w.alloc (.cells #[.int .i64 kind] 3)).alloc (.cells #[.int .i64 most] 3)).alloc (.cells #[.slice ao xs.length cp] 22)).alloc (.cells #[.int .i64 other] 3)).alloc (.cells #[.int .i64 om] 3)).alloc (.cells #[.slice ap ys.length cq] 22)).alloc (.cells #[.slice none 0 0, .float .f64 0, .bool false, .int .i64 0, .int .i64 0] 38) := ⟨_, rfl⟩
  have hWs : W.heap.size = w.heap.size + 7 := by rw [hW]; simp
  have hFW : Fr (fun _ => False) w W := by rw [hW]; exact (((((((Fr.refl _ w).alloc _).alloc _).alloc _).alloc _).alloc _).alloc _).alloc _
  have hW0 : W.heap[w.heap.size]? = some (.cells #[.int .i64 kind] 3 (0, 0)) := by
    rw [hW, Below.heap_alloc _ _ _ (by simp <;> omega), Below.heap_alloc _ _ _ (by simp <;> omega), Below.heap_alloc _ _ _ (by simp <;> omega), Below.heap_alloc _ _ _ (by simp <;> omega), Below.heap_alloc _ _ _ (by simp <;> omega), Below.heap_alloc _ _ _ (by simp)]
    exact heap_alloc_new w _
  have hW1 : W.heap[w.heap.size + 1]? = some (.cells #[.int .i64 most] 3 (0, 0)) := by
    rw [hW, Below.heap_alloc _ _ _ (by simp <;> omega), Below.heap_alloc _ _ _ (by simp <;> omega), Below.heap_alloc _ _ _ (by simp <;> omega), Below.heap_alloc _ _ _ (by simp <;> omega), Below.heap_alloc _ _ _ (by simp)]
    have := heap_alloc_new (w.alloc (.cells #[.int .i64 kind] 3)) (.cells #[.int .i64 most] 3)
    simpa using this
  have hW2 : W.heap[w.heap.size + 1 + 1]? = some (.cells #[.slice ao xs.length cp] 22 (0, 0)) := by
    rw [hW, Below.heap_alloc _ _ _ (by simp <;> omega), Below.heap_alloc _ _ _ (by simp <;> omega), Below.heap_alloc _ _ _ (by simp <;> omega), Below.heap_alloc _ _ _ (by simp)]
    have := heap_alloc_new ((w.alloc (.cells #[.int .i64 kind] 3)).alloc (.cells #[.int .i64 most] 3)) (.cells #[.slice ao xs.length cp] 22)
    simpa using this
  have hW3 : W.heap[w.heap.size + 1 + 1 + 1]? = some (.cells #[.int .i64 other] 3 (0, 0)) := by
    rw [hW, Below.heap_alloc _ _ _ (by simp <;> omega), Below.heap_alloc _ _ _ (by simp <;> omega), Below.heap_alloc _ _ _ (by simp)]
    have := heap_alloc_new (((w.alloc (.cells #[.int .i64 kind] 3)).alloc (.cells #[.int .i64 most] 3)).alloc (.cells #[.slice ao xs.length cp] 22)) (.cells #[.int .i64 other] 3)
    simpa using this
  have hW4 : W.heap[w.heap.size + 1 + 1 + 1 + 1]? = some (.cells #[.int .i64 om] 3 (0, 0)) := by
    rw [hW, Below.heap_alloc _ _ _ (by simp <;> omega), Below.heap_alloc _ _ _ (by simp)]
    have := heap_alloc_new ((((w.alloc (.cells #[.int .i64 kind] 3)).alloc (.cells #[.int .i64 most] 3)).alloc (.cells #[.slice ao xs.length cp] 22)).alloc (.cells #[.int .i64 other] 3)) (.cells #[.int .i64 om] 3)
    simpa using this
  have hW5 : W.heap[w.heap.size + 1 + 1 + 1 + 1 + 1]? = some (.cells #[.slice ap ys.length cq] 22 (0, 0)) := by
    rw [hW, Below.heap_alloc _ _ _ (by simp)]
    have := heap_alloc_new (((((w.alloc (.cells #[.int .i64 kind] 3)).alloc (.cells #[.int .i64 most] 3)).alloc (.cells #[.slice ao xs.length cp] 22)).alloc (.cells #[.int .i64 other] 3)).alloc (.cells #[.int .i64 om] 3)) (.cells #[.slice ap ys.length cq] 22)
    simpa using this
  have hW6 : W.heap[w.heap.size + 1 + 1 + 1 + 1 + 1 + 1]? = some (.cells #[.slice none 0 0, .float .f64 0, .bool false, .int .i64 0, .int .i64 0] 38 (0, 0)) := by
    rw [hW]
    have := heap_alloc_new ((((((w.alloc (.cells #[.int .i64 kind] 3)).alloc (.cells #[.int .i64 most] 3)).alloc (.cells #[.slice ao xs.length cp] 22)).alloc (.cells #[.int .i64 other] 3)).alloc (.cells #[.int .i64 om] 3)).alloc (.cells #[.slice ap ys.length cq] 22)) (.cells #[.slice none 0 0, .float .f64 0, .bool false, .int .i64 0, .int .i64 0] 38)
    simpa using this
  have H := told_any D most (xs ++ keptB other om ys) 39 #[.pointer (some ⟨w.heap.size, 0, none⟩), .pointer (some ⟨w.heap.size + 1, 0, none⟩), .pointer (some ⟨w.heap.size + 1 + 1, 0, none⟩), .pointer (some ⟨w.heap.size + 1 + 1 + 1, 0, none⟩), .pointer (some ⟨w.heap.size + 1 + 1 + 1 + 1, 0, none⟩), .pointer (some ⟨w.heap.size + 1 + 1 + 1 + 1 + 1, 0, none⟩)] W hfm
    (fun w => enters_of Tryz.func39 (by kernel_rfl) rfl _ w)
    (fun W2 hf => merged1_any V most om ao ap cp cq xs ys _ _ _ _ _ _ W2 hfew hfo (hl.later ((hFW.trans hf (U := fun _ => False) (fun _ _ h => h) (fun _ _ h => h)).below (fun _ h => h.elim) (Nat.le_refl _))) (hlo.later ((hFW.trans hf (U := fun _ => False) (fun _ _ h => h) (fun _ _ h => h)).below (fun _ h => h.elim) (Nat.le_refl _))) hn hno ht hg
      (cell_of_row _ _ 0 _ _ _ (hf.heap hW0 (fun h => h))) (cell_of_row _ _ 0 _ _ _ (hf.heap hW1 (fun h => h))) (cell_of_row _ _ 0 _ _ _ (hf.heap hW2 (fun h => h))) (cell_of_row _ _ 0 _ _ _ (hf.heap hW3 (fun h => h))) (cell_of_row _ _ 0 _ _ _ (hf.heap hW4 (fun h => h))) (cell_of_row _ _ 0 _ _ _ (hf.heap hW5 (fun h => h))))
  have HO := fun ao c w2 => @state_out (keptB kind most (xs ++ keptB other om ys)) w W w2 (w.heap.size + 1 + 1 + 1 + 1 + 1 + 1) hFW (by omega) (by omega) _ _ _ _ _ hW6 ao c
  obtain ⟨ks, hks⟩ : ∃ ks, ks = keptB kind most (xs ++ keptB other om ys) := ⟨_, rfl⟩
  obtain ⟨zs, hzs⟩ : ∃ zs, zs = xs ++ keptB other om ys := ⟨_, rfl⟩
  rw [← hks] at H HO ⊢
  rw [← hzs] at H ⊢
  rw [hW] at H
  have HW := Lib.hid hW
  have HOO := Lib.hid HO
  clear hW hWs hFW hW0 hW1 hW2 hW3 hW4 hW5 hW6 hfew hfo hks hl hlo HO hfm hzs hg ht hn hno
  go_enter Tryz.func21, Tryz.ntmps21
  go_wp2_with fail
  refine H.mono ?_
  clear H
  rintro e w2 ⟨ao2, c2, rfl, h1, h2, h3⟩
  rw [← HW.out] at h2 h3
  obtain ⟨g1, g2⟩ := HOO.out ao2 c2 w2 h1 h2 h3
  have s5 := state_set5 (.slice ao2 ks.length c2) (.float .f64 (nf (tot zs))) (.bool zs.isEmpty) (.int .i64 (lowE zs ks)) (.int .i64 (topE zs ks)) g1
  have S5 := Lib.hid s5
  have y0 := frozen_of_row w2 (w.heap.size + 1 + 1 + 1 + 1 + 1 + 1) 0 _ _ g1
  have y1 := frozen_of_row w2 (w.heap.size + 1 + 1 + 1 + 1 + 1 + 1) 1 _ _ g1
  have y2 := frozen_of_row w2 (w.heap.size + 1 + 1 + 1 + 1 + 1 + 1) 2 _ _ g1
  have y3 := frozen_of_row w2 (w.heap.size + 1 + 1 + 1 + 1 + 1 + 1) 3 _ _ g1
  have y4 := frozen_of_row w2 (w.heap.size + 1 + 1 + 1 + 1 + 1 + 1) 4 _ _ g1
  obtain ⟨z0, z1, z2, z3, z4⟩ := state_cells g1
  have G2 := Lib.hid g2
  clear g1 g2 s5 h1 h2 h3
  unfold stateV
  go_wp2
  refine bodyPost_ret (v := .tuple #[.agg (stateV ao2 c2 zs ks), .bool true]) (by simp only [results, Tryz.results21, stateV]; simp [go_sem, z0, z1, z2, z3, z4]) rfl ?_
  obtain ⟨a1, a2, a3⟩ := G2.out _ S5.out.2
  exact ⟨ao2, c2, rfl, a1, a2, a3⟩
end Go.Proofs.YtnmbjalojgccmaaGreat
end
