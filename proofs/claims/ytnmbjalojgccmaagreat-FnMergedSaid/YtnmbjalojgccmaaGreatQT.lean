/-
  The kinds of stores: their constructors, their methods.
-/
import Derived.Test.YtnmbjalojgccmaaGreatQG
import Derived.Test.YtnmbjalojgccmaaGreatQM
import Derived.Test.YtnmbjalojgccmaaGreatQI
import Derived.Test.YtnmbjalojgccmaaGreatQS
import Derived.Test.YtnmbjalojgccmaaGreatQP
section
namespace Go.Proofs.YtnmbjalojgccmaaGreat
open Go.RowKit

set_option maxRecDepth 100000 in
theorem newDense_any (w : World) : Calls Tryz.prog 76 #[] w fun e w' => ∃ p, e = .returned (.pointer (some ⟨p, 0, none⟩)) ∧ DEmpty p [] 171 w' ∧ w.heap.size ≤ p ∧ Fr (fun _ => False) w w' := by
  go_enter Tryz.func76, Tryz.ntmps76
  go_wp2
  go_ret
  exact ⟨w.heap.size, rfl, heap_alloc_new w _, Nat.le_refl _, (Fr.refl _ w).alloc _⟩

set_option maxRecDepth 100000 in
theorem newLow_any (most : Nat) (w : World) : Calls Tryz.prog 79 #[.int .i64 (most : Int)] w fun e w' => ∃ p, e = .returned (.pointer (some ⟨p, 0, none⟩)) ∧ DEmpty p (lrest most false) 179 w' ∧ w.heap.size ≤ p ∧ Fr (fun _ => False) w w' := by
  go_enter Tryz.func79, Tryz.ntmps79
  go_wp2
  go_ret
  exact ⟨w.heap.size, rfl, heap_alloc_new w _, Nat.le_refl _, (Fr.refl _ w).alloc _⟩

set_option maxRecDepth 100000 in
theorem newHigh_any (most : Nat) (w : World) : Calls Tryz.prog 80 #[.int .i64 (most : Int)] w fun e w' => ∃ p, e = .returned (.pointer (some ⟨p, 0, none⟩)) ∧ DEmpty p (lrest most false) 180 w' ∧ w.heap.size ≤ p ∧ Fr (fun _ => False) w w' := by
  go_enter Tryz.func80, Tryz.ntmps80
  go_wp2
  go_ret
  exact ⟨w.heap.size, rfl, heap_alloc_new w _, Nat.le_refl _, (Fr.refl _ w).alloc _⟩

theorem mAddD (p : Nat) (w : World) : (method 405 130 (.pointer (some ⟨p, 0, none⟩)) "AddWithCount").run Tryz.prog w = .ok (198, .pointer (some ⟨p, 0, none⟩)) w := by kernel_rfl
theorem mKeyL (p : Nat) (w : World) : (method 405 136 (.pointer (some ⟨p, 0, none⟩)) "KeyAtRank").run Tryz.prog w = .ok (206, .pointer (some ⟨p, 0, none⟩)) w := by kernel_rfl
theorem mAddL (p : Nat) (w : World) : (method 405 136 (.pointer (some ⟨p, 0, none⟩)) "AddWithCount").run Tryz.prog w = .ok (324, .pointer (some ⟨p, 0, none⟩)) w := by kernel_rfl
end Go.Proofs.YtnmbjalojgccmaaGreat
end
/-
  What a store of a kind is to do: for all kinds alike. What is kept, by counts.
-/
section
namespace Go.Proofs.YtnmbjalojgccmaaGreat
open Go.RowKit

theorem cnt_kept0 {kind most : Int} (h3 : kind ≠ 3) (h4 : kind ≠ 4) (xs : Bins) : cntB (keptB kind most xs) = cntB xs := by
  unfold keptB; rw [if_neg h3, if_neg h4, cntB_summed]
theorem cnt_kept3 {most : Int} {xs : Bins} (hr : InR xs) (hp : Pos xs) {m : Int} (h1 : 0 < cntB xs m) (h2 : ∀ i, m < i → cntB xs i = 0) : cntB (keptB 3 most xs) = sqL (cntB xs) (m - most + 1) := by
  have hne : xs ≠ [] := fun e => by rw [e] at h1; exact absurd h1 (Nat.lt_irrefl _)
  have hl : lastI (summed xs) = m := lastI_of (summed_asc xs) hp.summed (by rw [cntB_summed]; exact h1) (by rw [cntB_summed]; exact h2)
  show cntB (lowB most (summed xs)) = _
  unfold lowB
  rw [if_neg (summed_ne hne), cntB_summed, cntB_lift _ hr.summed, cntB_summed, hl]
theorem sqH_over {f : Int → Nat} {hi : Int} (h : 10000 ≤ hi) (hz : ∀ i, 10000 < i → f i = 0) : sqH f hi = f := sqH_none f hi (by omega) (fun i hi2 => hz i (by omega)) hz
theorem cnt_kept4 {most : Int} {xs : Bins} (hr : InR xs) (hp : Pos xs) {m : Int} (h1 : 0 < cntB xs m) (h2 : ∀ i, i < m → cntB xs i = 0) : cntB (keptB 4 most xs) = sqH (cntB xs) (m + most - 1) := by
  have hne : xs ≠ [] := fun e => by rw [e] at h1; exact absurd h1 (Nat.lt_irrefl _)
  have hl : firstI (summed xs) = m := firstI_of (summed_asc xs) hp.summed (by rw [cntB_summed]; exact h1) (by rw [cntB_summed]; exact h2)
  show cntB (highB most (summed xs)) = _
  unfold highB
  rw [if_neg (summed_ne hne), cntB_summed, hl]
  by_cases c : m + most - 1 ≤ 10000
  · rw [cntB_drop _ c hr.summed, cntB_summed]
  · have hd : dropB (m + most - 1) (summed xs) = summed xs := by
      unfold dropB
      conv => rhs; rw [← List.map_id (summed xs)]
      refine List.map_congr_left fun p hpm => ?_
      have := (hr.summed p hpm).2
      show (min p.1 (m + most - 1), p.2) = p
      rw [show min p.1 (m + most - 1) = p.1 from by omega]
    rw [hd, cntB_summed, sqH_over (by omega) (fun i hi => cntB_inR hr i (.inr hi))]

/-- What a store of a kind is, and does. -/
structure StoreKind (kind : Int) where
  T : TypeId
  fAdd : FuncId
  fKey : FuncId
  St : Int → Bins → (Nat → Prop) → Nat → World → Prop
  mAdd : ∀ p w, (method 405 T (.pointer (some ⟨p, 0, none⟩)) "AddWithCount").run Tryz.prog w = .ok (fAdd, .pointer (some ⟨p, 0, none⟩)) w
  mKey : ∀ p w, (method 405 T (.pointer (some ⟨p, 0, none⟩)) "KeyAtRank").run Tryz.prog w = .ok (fKey, .pointer (some ⟨p, 0, none⟩)) w
  eAdd : ∀ args w, (callFunc fAdd args).run Tryz.prog w = .ok (.enter fAdd args) w
  eKey : ∀ args w, (callFunc fKey args).run Tryz.prog w = .ok (.enter fKey args) w
  new : ∀ most w, knownB kind most = true → Calls Tryz.prog 53 #[.int .i64 kind, .int .i64 most] w fun e w' => ∃ p S, e = .returned (.iface T (.pointer (some ⟨p, 0, none⟩))) ∧ St most [] S p w' ∧ (∀ k, S k → w.heap.size ≤ k) ∧ Fr (fun _ => False) w w'
  add : ∀ most xs S p i c w, knownB kind most = true → St most xs S p w → InR xs → Pos xs → tot xs + c < 1000000000 → xs.length < 1000 → -10000 ≤ i → i ≤ 10000 → 0 < c →
    Calls Tryz.prog fAdd #[.pointer (some ⟨p, 0, none⟩), .int .i64 i, .float .f64 (nf c)] w fun e w' => e = .returned (.tuple #[]) ∧ ∃ S', St most (xs ++ [(i, c)]) S' p w' ∧ Fr S w w' ∧ ∀ k, S' k → S k ∨ w.heap.size ≤ k
  key : ∀ most xs S p r w, knownB kind most = true → St most xs S p w → InR xs → Pos xs → tot xs < 1000000000 → xs.length ≤ 60 → (FloatKind.f64.format.order r 0 == some .lt) = false → fgt2 (nf 0) r = false → fgt2 (nf (tot xs)) r = true →
    Calls Tryz.prog fKey #[.pointer (some ⟨p, 0, none⟩), .float .f64 r] w fun e w' => (∃ K, e = .returned (.int .i64 K) ∧ KeyIs (cntB (keptB kind most xs)) r K) ∧ ∃ S', St most xs S' p w' ∧ Fr S w w' ∧ ∀ k, S' k → S k ∨ w.heap.size ≤ k
  fr : ∀ most xs S p S2 w w', St most xs S p w → Fr S2 w w' → (∀ k, S k → ¬ S2 k) → St most xs S p w'
  lt : ∀ most xs S p w, St most xs S p w → ∀ k, S k → k < w.heap.size
end Go.Proofs.YtnmbjalojgccmaaGreat
end
/-
  The dense store, as one of its kind.
-/
section
namespace Go.Proofs.YtnmbjalojgccmaaGreat
open Go.RowKit

theorem mAddDn (p : Nat) (w : World) : (method 405 130 (.pointer (some ⟨p, 0, none⟩)) "AddWithCount").run Tryz.prog w = .ok (198, .pointer (some ⟨p, 0, none⟩)) w := by kernel_rfl
theorem mKeyDn (p : Nat) (w : World) : (method 405 130 (.pointer (some ⟨p, 0, none⟩)) "KeyAtRank").run Tryz.prog w = .ok (206, .pointer (some ⟨p, 0, none⟩)) w := by kernel_rfl

/-- A dense store that bins were added to. -/
def StD (_most : Int) (xs : Bins) (S : Nat → Prop) (p : Nat) (w : World) : Prop :=
  (xs = [] ∧ DEmpty p [] 171 w ∧ ∀ k, S k ↔ k = p) ∨
  ∃ mn mx g L cp, FullPre (cntB xs) (tot xs) mn mx p g L cp [] 171 w ∧ 0 < cntB xs mn ∧ 0 < cntB xs mx ∧ ∀ k, S k ↔ k = p ∨ k = g

theorem tot_snoc (xs : Bins) (i : Int) (c : Nat) : tot (xs ++ [(i, c)]) = tot xs + c := by rw [tot_append]; rfl

theorem StD.fr {most : Int} {xs : Bins} {S S2 : Nat → Prop} {p : Nat} {w w' : World} (h : StD most xs S p w) (hf : Fr S2 w w') (hn : ∀ k, S k → ¬ S2 k) : StD most xs S p w' := by
  rcases h with ⟨h1, h2, h3⟩ | ⟨mn, mx, g, L, cp, h1, h2, h3, h4⟩
  · exact .inl ⟨h1, DS.fr h2 hf (hn p ((h3 p).2 rfl)), h3⟩
  · exact .inr ⟨mn, mx, g, L, cp, { h1 with ok := h1.ok.fr hf (hn p ((h4 p).2 (.inl rfl))) (hn g ((h4 g).2 (.inr rfl))) }, h2, h3, h4⟩

theorem StD.add {most : Int} {xs : Bins} {S : Nat → Prop} {p : Nat} {i : Int} {c : Nat} {w : World} (h : StD most xs S p w) (hr : InR xs) (ht : tot xs + c < 1000000000) (b1 : -10000 ≤ i) (b2 : i ≤ 10000) (hc : 0 < c) :
    Calls Tryz.prog 198 #[.pointer (some ⟨p, 0, none⟩), .int .i64 i, .float .f64 (nf c)] w fun e w' => e = .returned (.tuple #[]) ∧ ∃ S', StD most (xs ++ [(i, c)]) S' p w' ∧ Fr S w w' ∧ ∀ k, S' k → S k ∨ w.heap.size ≤ k := by
  rcases h with ⟨rfl, h2, h3⟩ | ⟨mn, mx, g, L, cp, h1, h2, h3, h4⟩
  · have H := addD_any (fun _ => 0) 0 c i i i p none [] 171 w hc (by omega) (Nat.le_refl _) (Int.le_refl _) (Int.le_refl _) (by rw [nf_zero]; exact normE_any i p [] 171 w h2 b1 b2)
    refine H.mono ?_
    rintro e w' ⟨g', L, cp, rfl, hok, hpg, hL, hf, hg⟩
    refine ⟨rfl, fun k => k = p ∨ k = g', .inr ⟨i, i, g', L, cp, ⟨?_, hpg, fun j hj => ?_, Int.le_refl _, by rw [tot_snoc]; simp [tot]; exact hc, by rw [tot_snoc]; simp [tot]; omega, b1, b2, hL⟩, ?_, ?_, fun k => Iff.rfl⟩, hf.mono (fun k _ hk => ?_), fun k hk => ?_⟩
    · rw [tot_snoc]
      exact hok
    · show (if j = i then 0 + c else 0) = 0
      rw [if_neg (by omega)]
    · show 0 < if i = i then 0 + c else 0
      rw [if_pos rfl]; omega
    · show 0 < if i = i then 0 + c else 0
      rw [if_pos rfl]; omega
    · rcases hk with hk | hk
      · exact (h3 k).2 hk
      · cases hk
    · rcases hk with hk | hk
      · exact .inl ((h3 k).2 hk)
      · rcases hg with hg | hg
        · cases hg
        · right; omega
  · have hti : cntB xs i ≤ tot xs := by rw [← tot2_cnt hr]; exact one_le_tot _ _ b1 b2
    have H := addD_any (cntB xs) (tot xs) c i (min i mn) (max i mx) p (some g) [] 171 w hc (by omega) hti (by omega) (by omega) (normF_any (cntB xs) (tot xs) i mn mx p g L cp [] 171 w h1 b1 b2)
    refine H.mono ?_
    rintro e w' ⟨g', L', cp', rfl, hok, hpg, hL, hf, hg⟩
    have hle := h1.le
    have hcs := cntB_snoc xs (i, c)
    refine ⟨rfl, fun k => k = p ∨ k = g', .inr ⟨min i mn, max i mx, g', L', cp', ⟨?_, hpg, fun j hj => ?_, by omega, by rw [tot_snoc]; omega, by rw [tot_snoc]; omega, by have := h1.lo; omega, by have := h1.hi; omega, hL⟩, ?_, ?_, fun k => Iff.rfl⟩, hf.mono (fun k _ hk => ?_), fun k hk => ?_⟩
    · rw [tot_snoc, hcs]
      exact hok
    · rw [hcs]
      show (if j = i then cntB xs j + c else cntB xs j) = 0
      rw [if_neg (by omega), h1.zero j (by omega)]
    · rw [hcs]
      show 0 < if min i mn = i then cntB xs (min i mn) + c else cntB xs (min i mn)
      split
      · omega
      · rw [show min i mn = mn from by omega]; exact h2
    · rw [hcs]
      show 0 < if max i mx = i then cntB xs (max i mx) + c else cntB xs (max i mx)
      split
      · omega
      · rw [show max i mx = mx from by omega]; exact h3
    · rcases hk with hk | hk
      · exact (h4 k).2 (.inl hk)
      · exact (h4 k).2 (.inr (Option.some.inj hk).symm)
    · rcases hk with hk | hk
      · exact .inl ((h4 k).2 (.inl hk))
      · rcases hg with hg | hg
        · exact .inl ((h4 k).2 (.inr (by rw [hk]; exact (Option.some.inj hg).symm)))
        · right; omega

set_option maxRecDepth 100000 in
theorem emptyD_any (most : Int) (w : World) : Calls Tryz.prog 53 #[.int .i64 0, .int .i64 most] w fun e w' => ∃ p S, e = .returned (.iface 130 (.pointer (some ⟨p, 0, none⟩))) ∧ StD most [] S p w' ∧ (∀ k, S k → w.heap.size ≤ k) ∧ Fr (fun _ => False) w w' := by
  go_enter Tryz.func53, Tryz.ntmps53
  go_wp2_with (go_at_call 76; (with_reducible refine (newDense_any _).mono ?_); rintro e w' ⟨p, rfl, h1, h2, h3⟩; have H1 := Lib.hid h1; have H2 := Lib.hid h2; have H3 := Lib.hid h3; clear h1 h2 h3)
  go_ret
  exact ⟨p, fun k => k = p, rfl, .inl ⟨rfl, H1.out, fun k => Iff.rfl⟩, fun k hk => by rw [hk]; exact H2.out, H3.out⟩

def kindD : StoreKind 0 where
  T := 130
  fAdd := 198
  fKey := 206
  St := StD
  mAdd := mAddDn
  mKey := mKeyDn
  eAdd := enters_of Tryz.func198 (by kernel_rfl) rfl
  eKey := enters_of Tryz.func206 (by kernel_rfl) rfl
  new := fun most w _ => emptyD_any most w
  add := fun most xs S p i c w _ h hr _ ht _ b1 b2 hc => h.add hr ht b1 b2 hc
  key := fun most xs S p r w _ h hr hp ht _ hr0 hr1 hr2 => by
    rcases h with ⟨rfl, _, _⟩ | ⟨mn, mx, g, L, cp, h1, h2, h3, h4⟩
    · rw [show tot [] = 0 from rfl] at hr2; rw [hr1] at hr2; cases hr2
    · have H := keyD_any (cntB xs) (tot xs) r mn mx p g L cp [] 171 w h1.ok h1.zero (tot2_cnt hr).symm h1.lt h1.lo h1.hi (by have := h1.len; omega) hr0 hr1 hr2
      refine H.mono ?_
      rintro e w' ⟨⟨K, rfl, hk⟩, rfl⟩
      exact ⟨⟨K, rfl, by rw [cnt_kept0 (by decide) (by decide)]; exact hk⟩, S, .inr ⟨mn, mx, g, L, cp, h1, h2, h3, h4⟩, Fr.refl _ _, fun k hk => .inl hk⟩
  fr := fun _ _ _ _ _ _ _ h hf hn => h.fr hf hn
  lt := fun most xs S p w h k hk => by
    rcases h with ⟨_, h2, h3⟩ | ⟨mn, mx, g, L, cp, h1, _, _, h4⟩
    · rw [(h3 k).1 hk]; exact DS.lt h2
    · obtain ⟨off, hd, hrw, _⟩ := h1.ok
      rcases (h4 k).1 hk with e | e
      · rw [e]; exact hd.lt
      · rw [e]; exact hrw.lt
end Go.Proofs.YtnmbjalojgccmaaGreat
end
