/-
  Bins and counts, plainly: the counts of bins, of what is kept of them. No program in sight.
-/
import Derived.Test.YtnmbjalojgccmaaGreatQO
import Derived.Test.YtnmbjalojgccmaaGreatQG
section
namespace Go.Proofs.YtnmbjalojgccmaaGreat

/-- The counts of bins. -/
def cntB : Bins → Int → Nat
  | [] => fun _ => 0
  | p :: t => addAt (cntB t) p.1 p.2

theorem addAt_comm (f : Int → Nat) (i j : Int) (c d : Nat) : addAt (addAt f i c) j d = addAt (addAt f j d) i c := by
  funext k
  simp only [addAt]
  split <;> split <;> omega

def plusB (f : Int → Nat) (xs : Bins) : Int → Nat := xs.foldl (fun f p => addAt f p.1 p.2) f
theorem plusB_addAt (xs : Bins) : ∀ (f : Int → Nat) (i : Int) (c : Nat), plusB (addAt f i c) xs = addAt (plusB f xs) i c := by
  induction xs with
  | nil => intro f i c; rfl
  | cons p t ih =>
    intro f i c
    show plusB (addAt (addAt f i c) p.1 p.2) t = addAt (plusB (addAt f p.1 p.2) t) i c
    rw [addAt_comm, ih]
theorem plusB_zero (xs : Bins) : plusB (fun _ => 0) xs = cntB xs := by
  induction xs with
  | nil => rfl
  | cons p t ih =>
    show plusB (addAt (fun _ => 0) p.1 p.2) t = addAt (cntB t) p.1 p.2
    rw [plusB_addAt, ih]
theorem cntB_snoc (xs : Bins) (p : Int × Nat) : cntB (xs ++ [p]) = addAt (cntB xs) p.1 p.2 := by
  rw [← plusB_zero, ← plusB_zero]
  unfold plusB
  rw [List.foldl_append]
  rfl

theorem cntB_insB (i : Int) (n : Nat) : ∀ l : Bins, cntB (insB i n l) = addAt (cntB l) i n
  | [] => rfl
  | p :: t => by
    unfold insB
    split
    · rfl
    · split
      · rename_i h
        funext k
        simp only [cntB, addAt]
        rw [← h]
        split <;> omega
      · show addAt (cntB (insB i n t)) p.1 p.2 = addAt (addAt (cntB t) p.1 p.2) i n
        rw [cntB_insB i n t, addAt_comm]

theorem cntB_summed (xs : Bins) : cntB (summed xs) = cntB xs := by
  have : ∀ (xs l : Bins), cntB (xs.foldl (fun l p => insB p.1 p.2 l) l) = plusB (cntB l) xs := by
    intro xs
    induction xs with
    | nil => intro l; rfl
    | cons p t ih =>
      intro l
      show cntB (t.foldl _ (insB p.1 p.2 l)) = plusB (addAt (cntB l) p.1 p.2) t
      rw [ih, cntB_insB]
  show cntB (xs.foldl (fun l p => insB p.1 p.2 l) []) = _
  rw [this xs [], ← plusB_zero xs]
  rfl

theorem cntB_lift (m : Int) : ∀ {xs : Bins}, InR xs → cntB (liftB m xs) = sqL (cntB xs) m
  | [], _ => by
    rw [show liftB m [] = [] from rfl, sqL_none]
    · intro i _; rfl
    · intro i _; rfl
  | p :: t, h => by
    show addAt (cntB (liftB m t)) (max p.1 m) p.2 = sqL (addAt (cntB t) p.1 p.2) m
    rw [cntB_lift m (fun q hq => h q (List.mem_cons_of_mem _ hq)), sqL_addAt _ _ _ _ (h p List.mem_cons_self).1]

theorem cntB_none : ∀ {l : Bins} {x : Int}, (∀ p ∈ l, p.1 ≠ x) → cntB l x = 0
  | [], _, _ => rfl
  | p :: t, x, h => by
    show (if x = p.1 then _ else cntB t x) = 0
    rw [if_neg (fun e => h p List.mem_cons_self e.symm), cntB_none (fun q hq => h q (List.mem_cons_of_mem _ hq))]

theorem cntB_inR {xs : Bins} (h : InR xs) (i : Int) (hi : i < -10000 ∨ 10000 < i) : cntB xs i = 0 :=
  cntB_none (fun p hp e => by have := h p hp; omega)

theorem cntB_drop (m : Int) (hm : m ≤ 10000) : ∀ {xs : Bins}, InR xs → cntB (dropB m xs) = sqH (cntB xs) m
  | [], _ => by
    funext i
    show 0 = if m < i then 0 else if i = m then tot2 (fun _ => 0) - cum (fun _ => 0) m else 0
    have : tot2 (fun _ => 0) = 0 := cum_none _ _ (fun _ _ => rfl)
    rw [this]
    split
    · rfl
    · split
      · omega
      · rfl
  | p :: t, h => by
    show addAt (cntB (dropB m t)) (min p.1 m) p.2 = sqH (addAt (cntB t) p.1 p.2) m
    rw [cntB_drop m hm (fun q hq => h q (List.mem_cons_of_mem _ hq)), sqH_addAt _ _ _ _ (h p List.mem_cons_self).1 (h p List.mem_cons_self).2 hm]

/-- All counts are more than none. -/
def Pos (l : Bins) : Prop := ∀ p ∈ l, 0 < p.2
theorem Pos.insB {i : Int} {n : Nat} (hn : 0 < n) : ∀ {l : Bins}, Pos l → Pos (insB i n l)
  | [], _ => by intro q hq; simp [Go.Proofs.YtnmbjalojgccmaaGreat.insB] at hq; rw [hq]; exact hn
  | p :: t, h => by
    have h1 := h p List.mem_cons_self
    have h2 : Pos t := fun q hq => h q (List.mem_cons_of_mem _ hq)
    unfold Go.Proofs.YtnmbjalojgccmaaGreat.insB
    split
    · intro q hq
      rcases List.mem_cons.1 hq with rfl | hq
      · exact hn
      · exact h q hq
    · split
      · intro q hq
        rcases List.mem_cons.1 hq with rfl | hq
        · show 0 < p.2 + n; omega
        · exact h2 q hq
      · intro q hq
        rcases List.mem_cons.1 hq with rfl | hq
        · exact h1
        · exact Pos.insB hn h2 q hq
theorem Pos.summed {xs : Bins} (h : Pos xs) : Pos (summed xs) := by
  have : ∀ (xs l : Bins), Pos xs → Pos l → Pos (xs.foldl (fun l p => Go.Proofs.YtnmbjalojgccmaaGreat.insB p.1 p.2 l) l) := by
    intro xs
    induction xs with
    | nil => intro l _ h; exact h
    | cons p t ih => intro l h1 h2; exact ih _ (fun q hq => h1 q (List.mem_cons_of_mem _ hq)) (h2.insB (h1 p List.mem_cons_self))
  exact this xs [] h (fun q hq => by cases hq)
theorem Pos.lift {xs : Bins} (h : Pos xs) (m : Int) : Pos (liftB m xs) := by
  intro q hq
  obtain ⟨p, hp, rfl⟩ := List.mem_map.1 hq
  exact h p hp
theorem Pos.drop {xs : Bins} (h : Pos xs) (m : Int) : Pos (dropB m xs) := by
  intro q hq
  obtain ⟨p, hp, rfl⟩ := List.mem_map.1 hq
  exact h p hp

theorem summed_ne {xs : Bins} (h : xs ≠ []) : summed xs ≠ [] := by
  intro e
  have : ∀ (xs l : Bins), (xs.foldl (fun l p => insB p.1 p.2 l) l).length ≥ l.length := by
    intro xs
    induction xs with
    | nil => intro l; exact Nat.le_refl _
    | cons p t ih =>
      intro l
      have h1 := ih (insB p.1 p.2 l)
      have h2 : ∀ (i : Int) (n : Nat) (l : Bins), (insB i n l).length ≥ l.length := by
        intro i n l
        induction l with
        | nil => simp
        | cons q s ih => unfold insB; split <;> (try split) <;> simp <;> omega
      exact Nat.le_trans (h2 _ _ _) h1
  cases xs with
  | nil => exact h rfl
  | cons p t =>
    have h1 := this t (insB p.1 p.2 [])
    have h2 : (summed (p :: t)).length = 0 := by rw [e]; rfl
    have h3 : (insB p.1 p.2 []).length = 1 := rfl
    have h4 : summed (p :: t) = t.foldl (fun l p => insB p.1 p.2 l) (insB p.1 p.2 []) := rfl
    rw [h4] at h2
    omega

theorem kept_asc (kind most : Int) (xs : Bins) : Asc (keptB kind most xs) := by
  unfold keptB lowB highB
  split
  · split
    · exact List.Pairwise.nil
    · exact summed_asc _
  · split
    · split
      · exact List.Pairwise.nil
      · exact summed_asc _
    · exact summed_asc _
theorem kept_pos (kind most : Int) {xs : Bins} (h : Pos xs) : Pos (keptB kind most xs) := by
  unfold keptB lowB highB
  split
  · split
    · intro q hq; cases hq
    · exact (h.summed.lift _).summed
  · split
    · split
      · intro q hq; cases hq
      · exact (h.summed.drop _).summed
    · exact h.summed

/-- The greatest index. -/
theorem lastI_of {l : Bins} (ha : Asc l) (hp : Pos l) {m : Int} (h1 : 0 < cntB l m) (h2 : ∀ i, m < i → cntB l i = 0) : lastI l = m := by
  have hm : ∃ p ∈ l, p.1 = m := by
    apply Classical.byContradiction
    intro h
    have := cntB_none (l := l) (x := m) (fun p hp e => h ⟨p, hp, e⟩)
    omega
  have key : ∀ {l : Bins}, Asc l → Pos l → ∀ p ∈ l, 0 < cntB l p.1 := by
    intro l ha hp
    induction l with
    | nil => intro p hp; cases hp
    | cons q t ih =>
      intro p hpm
      show 0 < if p.1 = q.1 then cntB t p.1 + q.2 else cntB t p.1
      have := hp q List.mem_cons_self
      split
      · omega
      · rcases List.mem_cons.1 hpm with rfl | h
        · rename_i hne; exact absurd rfl hne
        · exact ih (asc_cons.1 ha).2 (fun q hq => hp q (List.mem_cons_of_mem _ hq)) p h
  obtain ⟨p, hpm, rfl⟩ := hm
  have hl : 0 < l.length := List.length_pos_of_mem hpm
  obtain ⟨k, hk⟩ : ∃ k, l.length = k + 1 := ⟨l.length - 1, by omega⟩
  rw [lastI_get l k hk]
  obtain ⟨j, hj, rfl⟩ := List.getElem_of_mem hpm
  by_cases hjk : j = k
  · subst hjk; rfl
  · have hlt := asc_lt ha (j := j) (k := k) hj (by omega) (by omega)
    have := h2 _ hlt
    have := key ha hp (l[k]'(by omega)) (List.getElem_mem _)
    omega
theorem cnt_pos_mem {l : Bins} (ha : Asc l) (hp : Pos l) : ∀ p ∈ l, 0 < cntB l p.1 := by
  induction l with
  | nil => intro p hp; cases hp
  | cons q t ih =>
    intro p hpm
    show 0 < if p.1 = q.1 then cntB t p.1 + q.2 else cntB t p.1
    have := hp q List.mem_cons_self
    split
    · omega
    · rcases List.mem_cons.1 hpm with rfl | h
      · rename_i hne; exact absurd rfl hne
      · exact ih (asc_cons.1 ha).2 (fun q hq => hp q (List.mem_cons_of_mem _ hq)) p h
theorem firstI_of {l : Bins} (ha : Asc l) (hp : Pos l) {m : Int} (h1 : 0 < cntB l m) (h2 : ∀ i, i < m → cntB l i = 0) : firstI l = m := by
  have hm : ∃ p ∈ l, p.1 = m := by
    apply Classical.byContradiction
    intro h
    have := cntB_none (l := l) (x := m) (fun p hp e => h ⟨p, hp, e⟩)
    omega
  obtain ⟨p, hpm, rfl⟩ := hm
  have hl : 0 < l.length := List.length_pos_of_mem hpm
  rw [firstI_get l hl]
  obtain ⟨j, hj, rfl⟩ := List.getElem_of_mem hpm
  by_cases hjk : j = 0
  · subst hjk; rfl
  · have hlt := asc_lt ha (j := 0) (k := j) hl hj (by omega)
    have := h2 _ hlt
    have := cnt_pos_mem ha hp (l[0]'hl) (List.getElem_mem _)
    omega

theorem filter_succ (x : Int) : ∀ {l : Bins}, Asc l → l.filter (fun p => decide (p.1 < x + 1)) = l.filter (fun p => decide (p.1 < x)) ++ l.filter (fun p => decide (p.1 = x))
  | [], _ => rfl
  | p :: t, h => by
    obtain ⟨h1, h2⟩ := asc_cons.1 h
    have ih := filter_succ x h2
    by_cases c1 : p.1 < x
    · rw [List.filter_cons_of_pos (by simp; omega), List.filter_cons_of_pos (by simp; omega), List.filter_cons_of_neg (by simp; omega), ih]; rfl
    · have e1 : t.filter (fun p => decide (p.1 < x)) = [] := List.filter_eq_nil_iff.2 (fun q hq => by have := h1 q hq; simp; omega)
      by_cases c2 : p.1 = x
      · rw [List.filter_cons_of_pos (by simp; omega), List.filter_cons_of_neg (by simp; omega), List.filter_cons_of_pos (by simp; omega), ih, e1]; rfl
      · rw [List.filter_cons_of_neg (by simp; omega), List.filter_cons_of_neg (by simp; omega), List.filter_cons_of_neg (by simp; omega), ih]
theorem filter_one (x : Int) : ∀ {l : Bins}, Asc l → Pos l → l.filter (fun p => decide (p.1 = x)) = if 0 < cntB l x then [(x, cntB l x)] else []
  | [], _, _ => rfl
  | p :: t, h, hp => by
    obtain ⟨h1, h2⟩ := asc_cons.1 h
    have hp2 : Pos t := fun q hq => hp q (List.mem_cons_of_mem _ hq)
    have h0 := hp p List.mem_cons_self
    by_cases c : p.1 = x
    · have e1 : t.filter (fun p => decide (p.1 = x)) = [] := List.filter_eq_nil_iff.2 (fun q hq => by have := h1 q hq; simp; omega)
      have e2 : cntB t x = 0 := cntB_none (fun q hq => by have := h1 q hq; omega)
      have e3 : cntB (p :: t) x = p.2 := by show (if x = p.1 then cntB t x + p.2 else cntB t x) = p.2; rw [if_pos c.symm, e2, Nat.zero_add]
      rw [List.filter_cons_of_pos (by simp; omega), e1, e3, if_pos h0, ← c]
    · have e3 : cntB (p :: t) x = cntB t x := by show (if x = p.1 then cntB t x + p.2 else cntB t x) = cntB t x; rw [if_neg (fun e => c e.symm)]
      rw [List.filter_cons_of_neg (by simp; omega), e3, filter_one x h2 hp2]

theorem nz_filter {l : Bins} (ha : Asc l) (hp : Pos l) (a : Int) (h : ∀ p ∈ l, a ≤ p.1) (k : Nat) : nz (cntB l) a k = l.filter (fun p => decide (p.1 < a + k)) := by
  induction k with
  | zero => exact (List.filter_eq_nil_iff.2 (fun q hq => by have := h q hq; simp; omega)).symm
  | succ k ih =>
    rw [nz, ih, show a + ((k + 1 : Nat) : Int) = a + (k : Int) + 1 from by omega, filter_succ _ ha, filter_one _ ha hp]
theorem nz_all {l : Bins} (ha : Asc l) (hp : Pos l) (a b : Int) (h1 : ∀ i, i < a → cntB l i = 0) (h2 : ∀ i, b < i → cntB l i = 0) : nz (cntB l) a (b - a + 1).toNat = l := by
  have g1 : ∀ p ∈ l, a ≤ p.1 := fun p hpm => by
    have := cnt_pos_mem ha hp p hpm
    by_cases c : a ≤ p.1
    · exact c
    · have := h1 p.1 (by omega); omega
  have g2 : ∀ p ∈ l, p.1 ≤ b := fun p hpm => by
    have := cnt_pos_mem ha hp p hpm
    by_cases c : p.1 ≤ b
    · exact c
    · have := h2 p.1 (by omega); omega
  rw [nz_filter ha hp a g1]
  exact List.filter_eq_self.2 (fun p hpm => by have := g1 p hpm; have := g2 p hpm; simp; omega)

theorem cum_filter (x : Int) : ∀ {l : Bins}, InR l → cum (cntB l) x = tot (l.filter (fun p => decide (p.1 < x)))
  | [], _ => cum_none _ _ (fun _ _ => rfl)
  | p :: t, h => by
    show cum (addAt (cntB t) p.1 p.2) x = _
    rw [cum_addAt _ _ _ _ (h p List.mem_cons_self).1, cum_filter x (fun q hq => h q (List.mem_cons_of_mem _ hq))]
    by_cases c : p.1 < x
    · rw [if_pos c, List.filter_cons_of_pos (by simp; omega), tot]; omega
    · rw [if_neg c, List.filter_cons_of_neg (by simp; omega)]; rfl
theorem tot2_cnt : ∀ {l : Bins}, InR l → tot2 (cntB l) = tot l
  | [], _ => cum_none _ _ (fun _ _ => rfl)
  | p :: t, h => by
    show tot2 (addAt (cntB t) p.1 p.2) = p.2 + tot t
    rw [tot2_addAt _ _ _ (h p List.mem_cons_self).1 (h p List.mem_cons_self).2, tot2_cnt (fun q hq => h q (List.mem_cons_of_mem _ hq))]; omega

theorem KeyIs.unique {f : Int → Nat} {r : Nat} {a b : Int} (h1 : KeyIs f r a) (h2 : KeyIs f r b) : a = b := by
  rcases Int.lt_trichotomy a b with h | h | h
  · have := h2.2 a h; rw [h1.1] at this; cases this
  · exact h
  · have := h1.2 b h; rw [h2.1] at this; cases this

theorem keyF_is {l : Bins} (ha : Asc l) (hr : InR l) (r : Nat) (h0 : fgt2 (nf 0) r = false) (ht : fgt2 (nf (tot l)) r = true) (hne : l ≠ []) : KeyIs (cntB l) r (keyF r 0 l) := by
  have key : ∀ (t pre : Bins), l = pre ++ t → t ≠ [] → (∀ x, (∀ p ∈ t, x < p.1) → fgt2 (nf (cum (cntB l) (x + 1))) r = false) → KeyIs (cntB l) r (keyF r (tot pre) t) := by
    intro t
    induction t with
    | nil => intro pre _ h; exact absurd rfl h
    | cons p t ih =>
      intro pre e _ hx
      have hasc : ∀ q ∈ t, p.1 < q.1 := by
        rw [e] at ha
        exact (asc_cons.1 (List.pairwise_append.1 ha).2.1).1
      have hpre : ∀ q ∈ pre, q.1 < p.1 := by
        rw [e] at ha
        exact fun q hq => (List.pairwise_append.1 ha).2.2 q hq p List.mem_cons_self
      have hcum : ∀ x, p.1 ≤ x → (∀ q ∈ t, x < q.1) → cum (cntB l) (x + 1) = tot pre + p.2 := by
        intro x h1 h2
        rw [cum_filter _ hr, e, List.filter_append, List.filter_cons_of_pos (by simp; omega), List.filter_eq_self.2 (fun q hq => by have := hpre q hq; simp; omega), List.filter_eq_nil_iff.2 (fun q hq => by have := h2 q hq; simp; omega), tot_append]
        rfl
      rw [keyF]
      by_cases c : fgt2 (nf (tot pre + p.2)) r = true
      · rw [if_pos (by rw [c]; rfl)]
        refine ⟨by rw [hcum p.1 (Int.le_refl _) hasc]; exact c, fun x hxp => hx x (fun q hq => ?_)⟩
        rcases List.mem_cons.1 hq with rfl | hq
        · exact hxp
        · have := hasc q hq; omega
      · have c' : fgt2 (nf (tot pre + p.2)) r = false := by simpa using c
        cases t with
        | nil =>
          exfalso
          have e2 : tot l = tot pre + p.2 := by rw [e, tot_append]; rfl
          rw [e2, c'] at ht; cases ht
        | cons q s =>
          rw [if_neg (by rw [c']; simp)]
          have e3 : tot pre + p.2 = tot (pre ++ [p]) := by rw [tot_append]; rfl
          rw [e3]
          refine ih (pre ++ [p]) (by rw [e, List.append_assoc]; rfl) (by simp) (fun x hxq => ?_)
          by_cases hxp : x < p.1
          · refine hx x (fun z hz => ?_)
            rcases List.mem_cons.1 hz with rfl | hz
            · exact hxp
            · have := hasc z hz; omega
          · rw [hcum x (by omega) hxq]; exact c'
  refine key l [] rfl hne (fun x hx => ?_)
  rw [cum_filter _ hr, List.filter_eq_nil_iff.2 (fun q hq => by have := hx q hq; simp; omega)]
  exact h0
end Go.Proofs.YtnmbjalojgccmaaGreat
end
