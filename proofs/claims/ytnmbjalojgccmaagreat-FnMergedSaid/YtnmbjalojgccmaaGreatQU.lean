/-
  The store that collapses its lowest bins, as one of its kind.
-/
import Derived.Test.YtnmbjalojgccmaaGreatQT
section
namespace Go.Proofs.YtnmbjalojgccmaaGreat
open Go.RowKit

theorem mAddLn (p : Nat) (w : World) : (method 405 136 (.pointer (some ⟨p, 0, none⟩)) "AddWithCount").run Tryz.prog w = .ok (324, .pointer (some ⟨p, 0, none⟩)) w := by kernel_rfl
theorem mKeyLn (p : Nat) (w : World) : (method 405 136 (.pointer (some ⟨p, 0, none⟩)) "KeyAtRank").run Tryz.prog w = .ok (206, .pointer (some ⟨p, 0, none⟩)) w := by kernel_rfl

theorem sqL_sqL2 {f : Int → Nat} (hz : ∀ i, i < -10000 → f i = 0) {lo lo2 : Int} (h : lo ≤ lo2) : sqL (sqL f lo) lo2 = sqL f lo2 := by
  by_cases c : -10000 ≤ lo
  · exact sqL_sqL f lo lo2 c h
  · rw [sqL_none f lo (fun i hi => hz i (by omega)) hz]
theorem tot2_sqL2 {f : Int → Nat} (hz : ∀ i, i < -10000 → f i = 0) {lo : Int} (h : lo ≤ 10000) : tot2 (sqL f lo) = tot2 f := by
  by_cases c : -10000 ≤ lo
  · exact tot2_sqL f lo c h
  · rw [sqL_none f lo (fun i hi => hz i (by omega)) hz]

theorem known3 {most : Int} (h : knownB 3 most = true) : ∃ m : Nat, most = (m : Int) ∧ 1 ≤ m ∧ m ≤ 500 := by
  simp [knownB] at h
  exact ⟨most.toNat, by omega, by omega, by omega⟩
theorem known4 {most : Int} (h : knownB 4 most = true) : ∃ m : Nat, most = (m : Int) ∧ 1 ≤ m ∧ m ≤ 500 := by
  simp [knownB] at h
  exact ⟨most.toNat, by omega, by omega, by omega⟩

theorem LowPre.fr {f : Int → Nat} {n most : Nat} {col : Bool} {mn mx : Int} {p g L cp : Nat} {T : TypeId} {w w' : World} {S : Nat → Prop} (h : LowPre f n most col mn mx p g L cp T w) (hf : Fr S w w') (hp : ¬ S p) (hg : ¬ S g) : LowPre f n most col mn mx p g L cp T w' :=
  { h with ok := h.ok.fr hf hp hg }

/-- A store that collapses its lowest bins, to which bins were added. -/
def StL (most : Int) (xs : Bins) (S : Nat → Prop) (p : Nat) (w : World) : Prop :=
  ∃ m : Nat, most = (m : Int) ∧ 1 ≤ m ∧ m ≤ 500 ∧
  ((xs = [] ∧ DEmpty p (lrest m false) 179 w ∧ ∀ k, S k ↔ k = p) ∨
  ∃ col mn mx g L cp, LowPre (sqL (cntB xs) (mx - m + 1)) (tot xs) m col mn mx p g L cp 179 w ∧ (∀ i, mx < i → cntB xs i = 0) ∧ 0 < cntB xs mx ∧ 0 < sqL (cntB xs) (mx - m + 1) mn ∧ ∀ k, S k ↔ k = p ∨ k = g)

theorem StL.add {most : Int} {xs : Bins} {S : Nat → Prop} {p : Nat} {i : Int} {c : Nat} {w : World} (h : StL most xs S p w) (hr : InR xs) (ht : tot xs + c < 1000000000) (b1 : -10000 ≤ i) (b2 : i ≤ 10000) (hc : 0 < c) :
    Calls Tryz.prog 324 #[.pointer (some ⟨p, 0, none⟩), .int .i64 i, .float .f64 (nf c)] w fun e w' => e = .returned (.tuple #[]) ∧ ∃ S', StL most (xs ++ [(i, c)]) S' p w' ∧ Fr S w w' ∧ ∀ k, S' k → S k ∨ w.heap.size ≤ k := by
  obtain ⟨m, rfl, hm1, hm2, h⟩ := h
  have hr' : InR (xs ++ [(i, c)]) := fun q hq => by
    rcases List.mem_append.1 hq with hq | hq
    · exact hr q hq
    · simp at hq; subst hq; exact ⟨b1, b2⟩
  have hzl : ∀ j, j < -10000 → cntB xs j = 0 := fun j hj => cntB_inR hr j (.inl hj)
  have hzl' : ∀ j, j < -10000 → cntB (xs ++ [(i, c)]) j = 0 := fun j hj => cntB_inR hr' j (.inl hj)
  have hcs : cntB (xs ++ [(i, c)]) = addAt (cntB xs) i c := cntB_snoc xs (i, c)
  have htot : ∀ lo, lo ≤ 10000 → tot (xs ++ [(i, c)]) = tot2 (sqL (cntB (xs ++ [(i, c)])) lo) := fun lo hlo => by rw [tot2_sqL2 hzl' hlo, tot2_cnt hr']
  rcases h with ⟨rfl, h2, h3⟩ | ⟨col, mn, mx, g, L, cp, h1, htop, hmx, hmn, hS⟩
  · have hz0 : sqL (fun _ => 0) (i - m + 1) = fun _ => 0 := sqL_none _ _ (fun _ _ => rfl) (fun _ _ => rfl)
    have hF : addAt (sqL (fun _ => 0) (i - m + 1)) i c = sqL (cntB ([] ++ [(i, c)])) (i - m + 1) := by
      have := sqL_addAt (fun _ => 0) i (i - m + 1) c b1
      rw [show max i (i - (m : Int) + 1) = i from by omega] at this
      rw [this]; rfl
    have H := addL_any (fun _ => 0) 0 c m false i i i i (i - m + 1) p none 179 w hc (by omega) (by rw [hz0]; exact Nat.le_refl _) (Int.le_refl _) (Int.le_refl _) (by rw [nf_zero]; exact normLE_any m i p 179 w h2 hm1 hm2 b1 b2)
    refine H.mono ?_
    rintro e w' ⟨g', L, cp, rfl, hok, hpg, hL, hf, hg⟩
    rw [hF] at hok
    have hat : ∀ j, sqL (cntB ([] ++ [(i, c)])) (i - m + 1) j = if j = i then c else 0 := fun j => by
      rw [← hF, hz0]
      show (if j = i then 0 + c else 0) = _
      split <;> omega
    refine ⟨rfl, fun k => k = p ∨ k = g', ⟨m, rfl, hm1, hm2, .inr ⟨false, i, i, g', L, cp, ⟨?_, hpg, fun j hj => ?_, Int.le_refl _, by rw [tot_snoc]; omega, by rw [tot_snoc]; omega, htot _ (by omega), b1, b2, hL, hm1, hm2, fun e => by cases e⟩, fun j hj => ?_, ?_, ?_, fun k => Iff.rfl⟩⟩, hf.mono (fun k _ hk => ?_), fun k hk => ?_⟩
    · rw [tot_snoc]; exact hok
    · rw [hat, if_neg (by omega)]
    · show (if j = i then 0 + c else 0) = 0
      rw [if_neg (by omega)]
    · show 0 < if i = i then 0 + c else 0
      rw [if_pos rfl]; omega
    · rw [hat, if_pos rfl]; exact hc
    · rcases hk with hk | hk
      · exact (h3 k).2 hk
      · cases hk
    · rcases hk with hk | hk
      · exact .inl ((h3 k).2 hk)
      · rcases hg with hg | hg
        · cases hg
        · right; omega
  · obtain ⟨nb, hnb⟩ : ∃ nb, nb = max i mx := ⟨_, rfl⟩
    obtain ⟨lo, hlo⟩ : ∃ lo, lo = nb - (m : Int) + 1 := ⟨_, rfl⟩
    obtain ⟨F, hF⟩ : ∃ F, F = sqL (cntB xs) (mx - m + 1) := ⟨_, rfl⟩
    rw [← hF] at h1 hmn
    have hle := h1.le
    have hlo0 := h1.lo
    have hhi0 := h1.hi
    have hsq : sqL F lo = sqL (cntB xs) lo := by rw [hF]; exact sqL_sqL2 hzl (by omega)
    have hnew : addAt (sqL F lo) (max i lo) c = sqL (cntB (xs ++ [(i, c)])) lo := by rw [hsq, sqL_addAt _ _ _ _ b1, hcs]
    have hfi : sqL F lo (max i lo) ≤ tot xs := by
      have := one_le_tot (sqL F lo) (max i lo) (by omega) (by omega)
      rw [hsq, tot2_sqL2 hzl (by omega), tot2_cnt hr] at this
      rw [hsq]; exact this
    have H := addL_any F (tot xs) c m (col || decide ((m : Int) < nb - min i mn + 1)) i (max i lo) (max (min i mn) lo) nb lo p (some g) 179 w hc (by omega) hfi (by omega) (by omega) (normLF_any F (tot xs) m col i mn mx lo nb p g L cp 179 w h1 b1 b2 hnb hlo)
    refine H.mono ?_
    rintro e w' ⟨g', L', cp', rfl, hok, hpg, hL, hf, hg⟩
    have hFc : ∀ x, (∀ j, j ≤ x → F j = 0) → cum F (x + 1) = 0 := fun x hx => cum_none F _ (fun j hj => hx j (by omega))
    have hat : ∀ j, sqL (cntB (xs ++ [(i, c)])) lo j = (if j = max i lo then sqL F lo j + c else sqL F lo j) := fun j => by rw [← hnew]; rfl
    have hsqat : ∀ j, sqL F lo j = if j < lo then 0 else if j = lo then cum F (lo + 1) else F j := fun j => rfl
    have hcm : mn ≤ lo → 0 < cum F (lo + 1) := fun h => by
      have e1 := cum_succ F mn hlo0
      have e2 := cum_mono F (mn + 1) (lo + 1) (by omega)
      omega
    rw [hnew] at hok
    rw [hlo] at hok hat
    refine ⟨rfl, fun k => k = p ∨ k = g', ⟨m, rfl, hm1, hm2, .inr ⟨col || decide ((m : Int) < nb - min i mn + 1), max (min i mn) lo, nb, g', L', cp', ⟨?_, hpg, fun j hj => ?_, by omega, by rw [tot_snoc]; omega, by rw [tot_snoc]; omega, htot _ (by omega), by omega, by omega, hL, hm1, hm2, fun e => ?_⟩, fun j hj => ?_, ?_, ?_, fun k => Iff.rfl⟩⟩, hf.mono (fun k _ hk => ?_), fun k hk => ?_⟩
    · rw [tot_snoc, hlo]; exact hok
    · rw [hat, ← hlo]
      rcases hj with hj | hj
      · by_cases c1 : j < lo
        · rw [if_neg (by omega), hsqat, if_pos c1]
        · rw [if_neg (by omega), hsqat, if_neg c1]
          split
          · exact hFc lo (fun x hx => h1.zero x (.inl (by omega)))
          · exact h1.zero j (.inl (by omega))
      · rw [if_neg (by omega), hsqat, if_neg (by omega)]
        split
        · omega
        · exact h1.zero j (.inr (by omega))
    · rcases Bool.or_eq_true_iff.1 e with e | e
      · have := h1.full e; omega
      · have := of_decide_eq_true e; omega
    · rw [hcs]
      show (if j = i then cntB xs j + c else cntB xs j) = 0
      rw [if_neg (by omega), htop j (by omega)]
    · rw [hcs]
      show 0 < if nb = i then cntB xs nb + c else cntB xs nb
      split
      · omega
      · rw [show nb = mx from by omega]; exact hmx
    · rw [hat, ← hlo]
      split
      · omega
      · rename_i hne
        rw [hsqat]
        by_cases c1 : mn ≤ lo
        · rw [show max (min i mn) lo = lo from by omega, if_neg (by omega), if_pos rfl]
          exact hcm c1
        · rw [show max (min i mn) lo = mn from by omega, if_neg (by omega), if_neg (by omega)]
          exact hmn
    · rcases hk with hk | hk
      · exact (hS k).2 (.inl hk)
      · exact (hS k).2 (.inr (Option.some.inj hk).symm)
    · rcases hk with hk | hk
      · exact .inl ((hS k).2 (.inl hk))
      · rcases hg with hg | hg
        · exact .inl ((hS k).2 (.inr (by rw [hk]; exact (Option.some.inj hg).symm)))
        · right; omega

set_option maxRecDepth 100000 in
theorem emptyL_any (m : Nat) (hm1 : 1 ≤ m) (hm2 : m ≤ 500) (w : World) : Calls Tryz.prog 53 #[.int .i64 3, .int .i64 (m : Int)] w fun e w' => ∃ p S, e = .returned (.iface 136 (.pointer (some ⟨p, 0, none⟩))) ∧ StL (m : Int) [] S p w' ∧ (∀ k, S k → w.heap.size ≤ k) ∧ Fr (fun _ => False) w w' := by
  go_enter Tryz.func53, Tryz.ntmps53
  go_wp2_with (go_at_call 79; (with_reducible refine (newLow_any _ _).mono ?_); rintro e w' ⟨p, rfl, h1, h2, h3⟩; have H1 := Lib.hid h1; have H2 := Lib.hid h2; have H3 := Lib.hid h3; clear h1 h2 h3)
  go_ret
  exact ⟨p, fun k => k = p, rfl, ⟨m, rfl, hm1, hm2, .inl ⟨rfl, H1.out, fun k => Iff.rfl⟩⟩, fun k hk => by rw [hk]; exact H2.out, H3.out⟩

def kindL : StoreKind 3 where
  T := 136
  fAdd := 324
  fKey := 206
  St := StL
  mAdd := mAddLn
  mKey := mKeyLn
  eAdd := enters_of Tryz.func324 (by kernel_rfl) rfl
  eKey := enters_of Tryz.func206 (by kernel_rfl) rfl
  new := fun most w hk => by
    obtain ⟨m, rfl, h1, h2⟩ := known3 hk
    exact emptyL_any m h1 h2 w
  add := fun most xs S p i c w _ h hr _ ht _ b1 b2 hc => h.add hr ht b1 b2 hc
  key := fun most xs S p r w _ h hr hp ht _ hr0 hr1 hr2 => by
    obtain ⟨m, rfl, hm1, hm2, h⟩ := h
    rcases h with ⟨rfl, _, _⟩ | ⟨col, mn, mx, g, L, cp, h1, htop, hmx, hmn, hS⟩
    · rw [show tot [] = 0 from rfl] at hr2; rw [hr1] at hr2; cases hr2
    · have H := keyD_any (sqL (cntB xs) (mx - m + 1)) (tot xs) r mn mx p g L cp (lrest m col) 179 w h1.ok h1.zero h1.tot h1.lt h1.lo h1.hi (by have := h1.len; omega) hr0 hr1 hr2
      refine H.mono ?_
      rintro e w' ⟨⟨K, rfl, hk⟩, rfl⟩
      exact ⟨⟨K, rfl, by rw [cnt_kept3 hr hp hmx htop]; exact hk⟩, S, ⟨m, rfl, hm1, hm2, .inr ⟨col, mn, mx, g, L, cp, h1, htop, hmx, hmn, hS⟩⟩, Fr.refl _ _, fun k hk => .inl hk⟩
  fr := fun most xs S p S2 w w' h hf hn => by
    obtain ⟨m, rfl, hm1, hm2, h⟩ := h
    refine ⟨m, rfl, hm1, hm2, ?_⟩
    rcases h with ⟨h1, h2, h3⟩ | ⟨col, mn, mx, g, L, cp, h1, htop, hmx, hmn, hS⟩
    · exact .inl ⟨h1, DS.fr h2 hf (hn p ((h3 p).2 rfl)), h3⟩
    · exact .inr ⟨col, mn, mx, g, L, cp, h1.fr hf (hn p ((hS p).2 (.inl rfl))) (hn g ((hS g).2 (.inr rfl))), htop, hmx, hmn, hS⟩
  lt := fun most xs S p w h k hk => by
    obtain ⟨m, rfl, hm1, hm2, h⟩ := h
    rcases h with ⟨_, h2, h3⟩ | ⟨col, mn, mx, g, L, cp, h1, htop, hmx, hmn, hS⟩
    · rw [(h3 k).1 hk]; exact DS.lt h2
    · obtain ⟨off, hd, hrw, _⟩ := h1.ok
      rcases (hS k).1 hk with e | e
      · rw [e]; exact hd.lt
      · rw [e]; exact hrw.lt
end Go.Proofs.YtnmbjalojgccmaaGreat
end
/-
  The store that collapses its highest bins, as one of its kind.
-/
section
namespace Go.Proofs.YtnmbjalojgccmaaGreat
open Go.RowKit

theorem mAddHn (p : Nat) (w : World) : (method 405 138 (.pointer (some ⟨p, 0, none⟩)) "AddWithCount").run Tryz.prog w = .ok (336, .pointer (some ⟨p, 0, none⟩)) w := by kernel_rfl
theorem mKeyHn (p : Nat) (w : World) : (method 405 138 (.pointer (some ⟨p, 0, none⟩)) "KeyAtRank").run Tryz.prog w = .ok (206, .pointer (some ⟨p, 0, none⟩)) w := by kernel_rfl

theorem sqH_sqH2 {f : Int → Nat} (hz : ∀ i, 10000 < i → f i = 0) {hi hi2 : Int} (h0 : -10000 ≤ hi2) (h : hi2 ≤ hi) : sqH (sqH f hi) hi2 = sqH f hi2 := by
  by_cases c : hi ≤ 10000
  · exact sqH_sqH f hi hi2 h0 c h
  · rw [sqH_over (hi := hi) (by omega) hz]
theorem tot2_sqH2 {f : Int → Nat} (hz : ∀ i, 10000 < i → f i = 0) {hi : Int} (h : -10000 ≤ hi) : tot2 (sqH f hi) = tot2 f := by
  by_cases c : hi ≤ 10000
  · exact tot2_sqH f hi h c
  · rw [sqH_over (by omega) hz]
theorem none_above {F : Int → Nat} {hi : Int} (h : ∀ i, hi ≤ i → F i = 0) : tot2 F - cum F hi = 0 := by
  by_cases c : hi ≤ 10001
  · rw [tot2_eq F hi c h]; omega
  · have := cum_mono F 10001 hi (by omega)
    rw [tot2_def]; omega

/-- A store that collapses its highest bins, to which bins were added. -/
def StH (most : Int) (xs : Bins) (S : Nat → Prop) (p : Nat) (w : World) : Prop :=
  ∃ m : Nat, most = (m : Int) ∧ 1 ≤ m ∧ m ≤ 500 ∧
  ((xs = [] ∧ DEmpty p (lrest m false) 180 w ∧ ∀ k, S k ↔ k = p) ∨
  ∃ col mn mx g L cp, LowPre (sqH (cntB xs) (mn + m - 1)) (tot xs) m col mn mx p g L cp 180 w ∧ (∀ i, i < mn → cntB xs i = 0) ∧ 0 < cntB xs mn ∧ 0 < sqH (cntB xs) (mn + m - 1) mx ∧ ∀ k, S k ↔ k = p ∨ k = g)

theorem StH.add {most : Int} {xs : Bins} {S : Nat → Prop} {p : Nat} {i : Int} {c : Nat} {w : World} (h : StH most xs S p w) (hr : InR xs) (ht : tot xs + c < 1000000000) (b1 : -10000 ≤ i) (b2 : i ≤ 10000) (hc : 0 < c) :
    Calls Tryz.prog 336 #[.pointer (some ⟨p, 0, none⟩), .int .i64 i, .float .f64 (nf c)] w fun e w' => e = .returned (.tuple #[]) ∧ ∃ S', StH most (xs ++ [(i, c)]) S' p w' ∧ Fr S w w' ∧ ∀ k, S' k → S k ∨ w.heap.size ≤ k := by
  obtain ⟨m, rfl, hm1, hm2, h⟩ := h
  have hr' : InR (xs ++ [(i, c)]) := fun q hq => by
    rcases List.mem_append.1 hq with hq | hq
    · exact hr q hq
    · simp at hq; subst hq; exact ⟨b1, b2⟩
  have hzh : ∀ j, 10000 < j → cntB xs j = 0 := fun j hj => cntB_inR hr j (.inr hj)
  have hzh' : ∀ j, 10000 < j → cntB (xs ++ [(i, c)]) j = 0 := fun j hj => cntB_inR hr' j (.inr hj)
  have hcs : cntB (xs ++ [(i, c)]) = addAt (cntB xs) i c := cntB_snoc xs (i, c)
  have htot : ∀ hi, -10000 ≤ hi → tot (xs ++ [(i, c)]) = tot2 (sqH (cntB (xs ++ [(i, c)])) hi) := fun hi hhi => by rw [tot2_sqH2 hzh' hhi, tot2_cnt hr']
  have hstep : ∀ hi, addAt (sqH (cntB xs) hi) (min i hi) c = sqH (cntB (xs ++ [(i, c)])) hi := fun hi => by
    by_cases c1 : hi ≤ 10000
    · rw [hcs, sqH_addAt _ _ _ _ b1 b2 c1]
    · rw [sqH_over (by omega) hzh, sqH_over (by omega) hzh', hcs, show min i hi = i from by omega]
  rcases h with ⟨rfl, h2, h3⟩ | ⟨col, mn, mx, g, L, cp, h1, htop, hmn, hmx, hS⟩
  · have hz0 : ∀ hi, sqH (fun _ => 0) hi = fun _ => 0 := fun hi => by
      funext j
      show (if hi < j then 0 else if j = hi then tot2 (fun _ => 0) - cum (fun _ => 0) hi else 0) = 0
      have : tot2 (fun _ : Int => 0) = 0 := cum_none _ _ (fun _ _ => rfl)
      rw [this]
      split
      · rfl
      · split
        · omega
        · rfl
    have hF : addAt (sqH (fun _ => 0) (i + m - 1)) i c = sqH (cntB ([] ++ [(i, c)])) (i + m - 1) := by
      have := hstep (i + m - 1)
      rw [show min i (i + (m : Int) - 1) = i from by omega] at this
      exact this
    have H := addH_any (fun _ => 0) 0 c m false i i i i (i + m - 1) p none 180 w hc (by omega) (by rw [hz0]; exact Nat.le_refl _) (Int.le_refl _) (Int.le_refl _) (by rw [nf_zero]; exact normHE_any m i p 180 w h2 hm1 hm2 b1 b2)
    refine H.mono ?_
    rintro e w' ⟨g', L, cp, rfl, hok, hpg, hL, hf, hg⟩
    rw [hF] at hok
    have hat : ∀ j, sqH (cntB ([] ++ [(i, c)])) (i + m - 1) j = if j = i then c else 0 := fun j => by
      rw [← hF, hz0]
      show (if j = i then 0 + c else 0) = _
      split <;> omega
    refine ⟨rfl, fun k => k = p ∨ k = g', ⟨m, rfl, hm1, hm2, .inr ⟨false, i, i, g', L, cp, ⟨?_, hpg, fun j hj => ?_, Int.le_refl _, by rw [tot_snoc]; omega, by rw [tot_snoc]; omega, htot _ (by omega), b1, b2, hL, hm1, hm2, fun e => by cases e⟩, fun j hj => ?_, ?_, ?_, fun k => Iff.rfl⟩⟩, hf.mono (fun k _ hk => ?_), fun k hk => ?_⟩
    · rw [tot_snoc]; exact hok
    · rw [hat, if_neg (by omega)]
    · show (if j = i then 0 + c else 0) = 0
      rw [if_neg (by omega)]
    · show 0 < if i = i then 0 + c else 0
      rw [if_pos rfl]; omega
    · rw [hat, if_pos rfl]; exact hc
    · rcases hk with hk | hk
      · exact (h3 k).2 hk
      · cases hk
    · rcases hk with hk | hk
      · exact .inl ((h3 k).2 hk)
      · rcases hg with hg | hg
        · cases hg
        · right; omega
  · obtain ⟨na, hna⟩ : ∃ na, na = min i mn := ⟨_, rfl⟩
    obtain ⟨hi, hhi⟩ : ∃ hi, hi = na + (m : Int) - 1 := ⟨_, rfl⟩
    obtain ⟨F, hF⟩ : ∃ F, F = sqH (cntB xs) (mn + m - 1) := ⟨_, rfl⟩
    rw [← hF] at h1 hmx
    have hle := h1.le
    have hlo0 := h1.lo
    have hhi0 := h1.hi
    have hsq : sqH F hi = sqH (cntB xs) hi := by rw [hF]; exact sqH_sqH2 hzh (by omega) (by omega)
    have hnew : addAt (sqH F hi) (min i hi) c = sqH (cntB (xs ++ [(i, c)])) hi := by rw [hsq]; exact hstep hi
    have hfi : sqH F hi (min i hi) ≤ tot xs := by
      have := one_le_tot (sqH F hi) (min i hi) (by omega) (by omega)
      rw [hsq, tot2_sqH2 hzh (by omega), tot2_cnt hr] at this
      rw [hsq]; exact this
    have H := addH_any F (tot xs) c m (col || decide ((m : Int) < max i mx - na + 1)) i (min i hi) na (min (max i mx) hi) hi p (some g) 180 w hc (by omega) hfi (by omega) (by omega) (normHF_any F (tot xs) m col i mn mx hi na p g L cp 180 w h1 b1 b2 hna hhi)
    refine H.mono ?_
    rintro e w' ⟨g', L', cp', rfl, hok, hpg, hL, hf, hg⟩
    have hat : ∀ j, sqH (cntB (xs ++ [(i, c)])) hi j = (if j = min i hi then sqH F hi j + c else sqH F hi j) := fun j => by rw [← hnew]; rfl
    have hsqat : ∀ j, sqH F hi j = if hi < j then 0 else if j = hi then tot2 F - cum F hi else F j := fun j => rfl
    have hcm : hi ≤ mx → 0 < tot2 F - cum F hi := fun h => by
      have e1 := cum_succ F mx (by omega)
      have e2 := cum_mono F hi mx h
      have e3 := cum_le_tot F (mx + 1) (by omega)
      omega
    rw [hnew] at hok
    rw [hhi] at hok hat
    refine ⟨rfl, fun k => k = p ∨ k = g', ⟨m, rfl, hm1, hm2, .inr ⟨col || decide ((m : Int) < max i mx - na + 1), na, min (max i mx) hi, g', L', cp', ⟨?_, hpg, fun j hj => ?_, by omega, by rw [tot_snoc]; omega, by rw [tot_snoc]; omega, htot _ (by omega), by omega, by omega, hL, hm1, hm2, fun e => ?_⟩, fun j hj => ?_, ?_, ?_, fun k => Iff.rfl⟩⟩, hf.mono (fun k _ hk => ?_), fun k hk => ?_⟩
    · rw [tot_snoc, hhi]; exact hok
    · rw [hat, ← hhi]
      rcases hj with hj | hj
      · rw [if_neg (by omega), hsqat, if_neg (by omega)]
        split
        · omega
        · exact h1.zero j (.inl (by omega))
      · by_cases c1 : hi < j
        · rw [if_neg (by omega), hsqat, if_pos c1]
        · rw [if_neg (by omega), hsqat, if_neg c1]
          split
          · exact none_above (fun x hx => h1.zero x (.inr (by omega)))
          · exact h1.zero j (.inr (by omega))
    · rcases Bool.or_eq_true_iff.1 e with e | e
      · have := h1.full e; omega
      · have := of_decide_eq_true e; omega
    · rw [hcs]
      show (if j = i then cntB xs j + c else cntB xs j) = 0
      rw [if_neg (by omega), htop j (by omega)]
    · rw [hcs]
      show 0 < if na = i then cntB xs na + c else cntB xs na
      split
      · omega
      · rw [show na = mn from by omega]; exact hmn
    · rw [hat, ← hhi]
      split
      · omega
      · rename_i hne
        rw [hsqat]
        by_cases c1 : hi ≤ mx
        · rw [show min (max i mx) hi = hi from by omega, if_neg (by omega), if_pos rfl]
          exact hcm c1
        · rw [show min (max i mx) hi = mx from by omega, if_neg (by omega), if_neg (by omega)]
          exact hmx
    · rcases hk with hk | hk
      · exact (hS k).2 (.inl hk)
      · exact (hS k).2 (.inr (Option.some.inj hk).symm)
    · rcases hk with hk | hk
      · exact .inl ((hS k).2 (.inl hk))
      · rcases hg with hg | hg
        · exact .inl ((hS k).2 (.inr (by rw [hk]; exact (Option.some.inj hg).symm)))
        · right; omega

set_option maxRecDepth 100000 in
theorem emptyH_any (m : Nat) (hm1 : 1 ≤ m) (hm2 : m ≤ 500) (w : World) : Calls Tryz.prog 53 #[.int .i64 4, .int .i64 (m : Int)] w fun e w' => ∃ p S, e = .returned (.iface 138 (.pointer (some ⟨p, 0, none⟩))) ∧ StH (m : Int) [] S p w' ∧ (∀ k, S k → w.heap.size ≤ k) ∧ Fr (fun _ => False) w w' := by
  go_enter Tryz.func53, Tryz.ntmps53
  go_wp2_with (go_at_call 80; (with_reducible refine (newHigh_any _ _).mono ?_); rintro e w' ⟨p, rfl, h1, h2, h3⟩; have H1 := Lib.hid h1; have H2 := Lib.hid h2; have H3 := Lib.hid h3; clear h1 h2 h3)
  go_ret
  exact ⟨p, fun k => k = p, rfl, ⟨m, rfl, hm1, hm2, .inl ⟨rfl, H1.out, fun k => Iff.rfl⟩⟩, fun k hk => by rw [hk]; exact H2.out, H3.out⟩

def kindH : StoreKind 4 where
  T := 138
  fAdd := 336
  fKey := 206
  St := StH
  mAdd := mAddHn
  mKey := mKeyHn
  eAdd := enters_of Tryz.func336 (by kernel_rfl) rfl
  eKey := enters_of Tryz.func206 (by kernel_rfl) rfl
  new := fun most w hk => by
    obtain ⟨m, rfl, h1, h2⟩ := known4 hk
    exact emptyH_any m h1 h2 w
  add := fun most xs S p i c w _ h hr _ ht _ b1 b2 hc => h.add hr ht b1 b2 hc
  key := fun most xs S p r w _ h hr hp ht _ hr0 hr1 hr2 => by
    obtain ⟨m, rfl, hm1, hm2, h⟩ := h
    rcases h with ⟨rfl, _, _⟩ | ⟨col, mn, mx, g, L, cp, h1, htop, hmn, hmx, hS⟩
    · rw [show tot [] = 0 from rfl] at hr2; rw [hr1] at hr2; cases hr2
    · have H := keyD_any (sqH (cntB xs) (mn + m - 1)) (tot xs) r mn mx p g L cp (lrest m col) 180 w h1.ok h1.zero h1.tot h1.lt h1.lo h1.hi (by have := h1.len; omega) hr0 hr1 hr2
      refine H.mono ?_
      rintro e w' ⟨⟨K, rfl, hk⟩, rfl⟩
      exact ⟨⟨K, rfl, by rw [cnt_kept4 hr hp hmn htop]; exact hk⟩, S, ⟨m, rfl, hm1, hm2, .inr ⟨col, mn, mx, g, L, cp, h1, htop, hmn, hmx, hS⟩⟩, Fr.refl _ _, fun k hk => .inl hk⟩
  fr := fun most xs S p S2 w w' h hf hn => by
    obtain ⟨m, rfl, hm1, hm2, h⟩ := h
    refine ⟨m, rfl, hm1, hm2, ?_⟩
    rcases h with ⟨h1, h2, h3⟩ | ⟨col, mn, mx, g, L, cp, h1, htop, hmn, hmx, hS⟩
    · exact .inl ⟨h1, DS.fr h2 hf (hn p ((h3 p).2 rfl)), h3⟩
    · exact .inr ⟨col, mn, mx, g, L, cp, h1.fr hf (hn p ((hS p).2 (.inl rfl))) (hn g ((hS g).2 (.inr rfl))), htop, hmn, hmx, hS⟩
  lt := fun most xs S p w h k hk => by
    obtain ⟨m, rfl, hm1, hm2, h⟩ := h
    rcases h with ⟨_, h2, h3⟩ | ⟨col, mn, mx, g, L, cp, h1, htop, hmn, hmx, hS⟩
    · rw [(h3 k).1 hk]; exact DS.lt h2
    · obtain ⟨off, hd, hrw, _⟩ := h1.ok
      rcases (hS k).1 hk with e | e
      · rw [e]; exact hd.lt
      · rw [e]; exact hrw.lt
end Go.Proofs.YtnmbjalojgccmaaGreat
end
/-
  The sparse store, as one of its kind.
-/
section
namespace Go.Proofs.YtnmbjalojgccmaaGreat
open Go.RowKit Go.Maps

theorem mAddSn (p : Nat) (w : World) : (method 405 132 (.pointer (some ⟨p, 0, none⟩)) "AddWithCount").run Tryz.prog w = .ok (243, .pointer (some ⟨p, 0, none⟩)) w := by kernel_rfl
theorem mKeySn (p : Nat) (w : World) : (method 405 132 (.pointer (some ⟨p, 0, none⟩)) "KeyAtRank").run Tryz.prog w = .ok (251, .pointer (some ⟨p, 0, none⟩)) w := by kernel_rfl

/-- A sparse store that bins were added to. -/
def StS (_most : Int) (xs : Bins) (S : Nat → Prop) (p : Nat) (w : World) : Prop :=
  ∃ b, Sparse (cntB xs) p b xs.length w ∧ ∀ k, S k ↔ k = p ∨ k = b

theorem Sparse.fr {f : Int → Nat} {p b k : Nat} {S : Nat → Prop} {w w' : World} (h : Sparse f p b k w) (hf : Fr S w w') (hp : ¬ S p) (hb : ¬ S b) : Sparse f p b k w' := by
  obtain ⟨h1, ⟨D, h2, h3⟩, h4⟩ := h
  refine ⟨hf.heap h1 hp, ⟨D, ?_, h3⟩, h4⟩
  obtain ⟨es, m0, h5, h6⟩ := h2
  exact ⟨es, m0, hf.heap h5 hb, h6⟩

set_option maxRecDepth 100000 in
theorem emptyS_any (most : Int) (w : World) : Calls Tryz.prog 53 #[.int .i64 1, .int .i64 most] w fun e w' => ∃ p S, e = .returned (.iface 132 (.pointer (some ⟨p, 0, none⟩))) ∧ StS most [] S p w' ∧ (∀ k, S k → w.heap.size ≤ k) ∧ Fr (fun _ => False) w w' := by
  go_enter Tryz.func53, Tryz.ntmps53
  go_wp2_with (go_at_call 77; (with_reducible refine (newS_any _).mono ?_); rintro e w' ⟨p, b, rfl, h1, h2, h3, h4⟩; have H1 := Lib.hid h1; have H2 := Lib.hid h2; have H3 := Lib.hid h3; have H4 := Lib.hid h4; clear h1 h2 h3 h4)
  go_ret
  exact ⟨p, fun k => k = p ∨ k = b, rfl, ⟨b, H1.out, fun k => Iff.rfl⟩, fun k hk => hk.elim (fun e => by rw [e]; exact H2.out) (fun e => by rw [e]; exact H3.out), H4.out⟩

def kindS : StoreKind 1 where
  T := 132
  fAdd := 243
  fKey := 251
  St := StS
  mAdd := mAddSn
  mKey := mKeySn
  eAdd := enters_of Tryz.func243 (by kernel_rfl) rfl
  eKey := enters_of Tryz.func251 (by kernel_rfl) rfl
  new := fun most w _ => emptyS_any most w
  add := fun most xs S p i c w _ h hr _ ht hl b1 b2 hc => by
    obtain ⟨b, h1, h2⟩ := h
    have hti : cntB xs i ≤ tot xs := by rw [← tot2_cnt hr]; exact one_le_tot _ _ b1 b2
    refine (addS_any (cntB xs) p b xs.length i c w h1 hc (by omega) (by omega) (by omega) (by omega)).mono ?_
    rintro e w' ⟨rfl, h3, h4⟩
    refine ⟨rfl, S, ⟨b, ?_, h2⟩, h4.mono (fun k _ hk => (h2 k).2 (.inr hk)), fun k hk => .inl hk⟩
    rw [cntB_snoc, List.length_append]
    exact h3
  key := fun most xs S p r w _ h hr hp ht hl hr0 hr1 hr2 => by
    obtain ⟨b, h1, h2⟩ := h
    have htt := tot2_cnt hr
    refine (keyS_any (cntB xs) p b xs.length r w h1 (by omega) (fun i hi => cntB_inR hr i hi) (by omega) hr1 (by rw [htt]; exact hr2)).mono ?_
    rintro e w' ⟨⟨K, rfl, hk⟩, hb⟩
    have hf := Fr.of_below hb
    refine ⟨⟨K, rfl, by rw [cnt_kept0 (by decide) (by decide)]; exact hk⟩, S, ⟨b, h1.fr hf (Nat.not_le.2 (lt_of_block h1.ptr)) ?_, h2⟩, hf.mono (fun k hk h => absurd h (Nat.not_le.2 hk)), fun k hk => .inl hk⟩
    obtain ⟨D, ho, _⟩ := h1.own
    exact Nat.not_le.2 ho.lt
  fr := fun most xs S p S2 w w' h hf hn => by
    obtain ⟨b, h1, h2⟩ := h
    exact ⟨b, h1.fr hf (hn p ((h2 p).2 (.inl rfl))) (hn b ((h2 b).2 (.inr rfl))), h2⟩
  lt := fun most xs S p w h k hk => by
    obtain ⟨b, h1, h2⟩ := h
    obtain ⟨D, ho, _⟩ := h1.own
    rcases (h2 k).1 hk with e | e
    · rw [e]; exact lt_of_block h1.ptr
    · rw [e]; exact ho.lt
end Go.Proofs.YtnmbjalojgccmaaGreat
end
