/-
  A store that is weighed anew: what a store of a kind is to do; the counts, plainly.
-/
import Derived.Test.YtnmbjalojgccmaaGreatTA
import Derived.Test.YtnmbjalojgccmaaGreatTK
section
namespace Go.Proofs.YtnmbjalojgccmaaGreat
open Go.RowKit

/-- Bins, each count k times. -/
def mulB (k : Nat) (xs : Bins) : Bins := xs.map fun p => (p.1, p.2 * k)
theorem mulB_length (k : Nat) (xs : Bins) : (mulB k xs).length = xs.length := List.length_map _
theorem mulB_one (xs : Bins) : mulB 1 xs = xs := by
  unfold mulB
  conv => rhs; rw [← List.map_id (xs)]
  exact List.map_congr_left fun p _ => by simp
theorem mulB_tot (k : Nat) : ∀ xs : Bins, tot (mulB k xs) = tot xs * k
  | [] => by simp [mulB, tot]
  | p :: t => by
    show p.2 * k + tot (mulB k t) = (p.2 + tot t) * k
    rw [mulB_tot k t, Nat.add_mul]
theorem mulB_cnt (k : Nat) : ∀ xs : Bins, cntB (mulB k xs) = fun i => cntB xs i * k
  | [] => by funext i; show 0 = 0 * k; omega
  | p :: t => by
    funext i
    show addAt (cntB (mulB k t)) p.1 (p.2 * k) i = addAt (cntB t) p.1 p.2 i * k
    rw [mulB_cnt k t]
    unfold addAt
    split
    · rw [Nat.add_mul]
    · rfl
theorem mulB_inR {k : Nat} {xs : Bins} (h : InR xs) : InR (mulB k xs) := fun p hp => by
  obtain ⟨q, hq, rfl⟩ := List.mem_map.1 hp
  exact h q hq
theorem mulB_pos {k : Nat} (hk : 0 < k) {xs : Bins} (h : Pos xs) : Pos (mulB k xs) := fun p hp => by
  obtain ⟨q, hq, rfl⟩ := List.mem_map.1 hp
  exact Nat.mul_pos (h q hq) hk
theorem mulB_nil {k : Nat} {xs : Bins} : mulB k xs = [] ↔ xs = [] := List.map_eq_nil_iff
theorem mulB_isEmpty (k : Nat) (xs : Bins) : (mulB k xs).isEmpty = xs.isEmpty := by cases xs <;> rfl

theorem insB_mul (k : Nat) (i : Int) (n : Nat) : ∀ l : Bins, insB i (n * k) (mulB k l) = mulB k (insB i n l)
  | [] => rfl
  | p :: t => by
    show insB i (n * k) ((p.1, p.2 * k) :: mulB k t) = mulB k (insB i n (p :: t))
    unfold insB
    dsimp only
    split
    · rfl
    · split
      · show _ = (p.1, (p.2 + n) * k) :: mulB k t
        rw [Nat.add_mul]
      · show _ = (p.1, p.2 * k) :: mulB k (insB i n t)
        rw [insB_mul k i n t]
theorem summed_mul (k : Nat) (xs : Bins) : summed (mulB k xs) = mulB k (summed xs) := by
  have : ∀ (xs l : Bins), (mulB k xs).foldl (fun l p => insB p.1 p.2 l) (mulB k l) = mulB k (xs.foldl (fun l p => insB p.1 p.2 l) l) := by
    intro xs
    induction xs with
    | nil => intro l; rfl
    | cons p t ih =>
      intro l
      show (mulB k t).foldl _ (insB p.1 (p.2 * k) (mulB k l)) = _
      rw [insB_mul, ih]
      rfl
  exact this xs []
theorem lift_mul (k : Nat) (m : Int) (xs : Bins) : liftB m (mulB k xs) = mulB k (liftB m xs) := by
  unfold liftB mulB; rw [List.map_map, List.map_map]; rfl
theorem drop_mul (k : Nat) (m : Int) (xs : Bins) : dropB m (mulB k xs) = mulB k (dropB m xs) := by
  unfold dropB mulB; rw [List.map_map, List.map_map]; rfl
theorem lastI_mul (k : Nat) (xs : Bins) : lastI (mulB k xs) = lastI xs := by
  unfold lastI mulB
  rw [List.getLast?_map]
  cases xs.getLast? <;> rfl
theorem firstI_mul (k : Nat) (xs : Bins) : firstI (mulB k xs) = firstI xs := by
  cases xs <;> rfl
theorem kept_mul (k : Nat) (kind most : Int) (xs : Bins) : keptB kind most (mulB k xs) = mulB k (keptB kind most xs) := by
  unfold keptB
  rw [summed_mul]
  split
  · unfold lowB
    by_cases h : summed xs = []
    · rw [if_pos h, if_pos (mulB_nil.2 h)]; rfl
    · rw [if_neg h, if_neg (fun e => h (mulB_nil.1 e)), lastI_mul, lift_mul, summed_mul]
  · split
    · unfold highB
      by_cases h : summed xs = []
      · rw [if_pos h, if_pos (mulB_nil.2 h)]; rfl
      · rw [if_neg h, if_neg (fun e => h (mulB_nil.1 e)), firstI_mul, drop_mul, summed_mul]
    · rfl

theorem sumF_mul (f : Int → Nat) (a : Int) (k : Nat) : ∀ m, sumF (fun i => f i * k) a m = sumF f a m * k
  | 0 => by simp [sumF]
  | m + 1 => by rw [sumF, sumF, sumF_mul f a k m, Nat.add_mul]
theorem cum_mul (f : Int → Nat) (x : Int) (k : Nat) : cum (fun i => f i * k) x = cum f x * k := sumF_mul f _ k _
theorem tot2_mul (f : Int → Nat) (k : Nat) : tot2 (fun i => f i * k) = tot2 f * k := cum_mul f _ k
theorem sqL_mul (f : Int → Nat) (lo : Int) (k : Nat) : sqL (fun i => f i * k) lo = fun i => sqL f lo i * k := by
  funext i
  unfold sqL
  rw [cum_mul]
  split
  · rw [Nat.zero_mul]
  · split <;> rfl
theorem sqH_mul (f : Int → Nat) (hi : Int) (k : Nat) : sqH (fun i => f i * k) hi = fun i => sqH f hi i * k := by
  funext i
  unfold sqH
  rw [cum_mul, tot2_mul, ← Nat.sub_mul]
  split
  · rw [Nat.zero_mul]
  · split <;> rfl

/-- A store that can be weighed anew. -/
structure WeighKind {kind : Int} (K : StoreKind kind) where
  fW : FuncId
  mW : ∀ p w, (method 405 K.T (.pointer (some ⟨p, 0, none⟩)) "Reweight").run Tryz.prog w = .ok (fW, .pointer (some ⟨p, 0, none⟩)) w
  eW : ∀ args w, (callFunc fW args).run Tryz.prog w = .ok (.enter fW args) w
  cW : ∀ most xs S p k w, K.St most xs S p w → Few kind most xs → 1 ≤ k → k ≤ 100 → tot xs < 1000000 → xs.length ≤ 60 →
    Calls Tryz.prog fW #[.pointer (some ⟨p, 0, none⟩), .float .f64 (nf k)] w fun e w' => e = .returned .nilIface ∧ ∃ S', K.St most (mulB k xs) S' p w' ∧ Fr S w w' ∧ ∀ b, S' b → S b ∨ w.heap.size ≤ b
end Go.Proofs.YtnmbjalojgccmaaGreat
end
/-
  The dense stores and the sparse one, weighed anew.
-/
section
namespace Go.Proofs.YtnmbjalojgccmaaGreat
open Go.RowKit

set_option maxRecDepth 100000 in
set_option maxHeartbeats 400000 in
theorem reweighDE_any (p k : Nat) (rest : List Value) (T : TypeId) (w : World) (h : DEmpty p rest T w) (hk1 : 2 ≤ k) (hk2 : k ≤ 100) :
    Calls Tryz.prog 210 #[.pointer (some ⟨p, 0, none⟩), .float .f64 (nf k)] w fun e w' => e = .returned .nilIface ∧ DEmpty p rest T w' ∧ Fr (fun b => b = p) w w' := by
  obtain ⟨h0, h1⟩ := weigh_tests hk1 hk2
  have hmc := fun w : World => run_float_arith (P := Tryz.prog) w .mul 30 .f64 _ _ _ (nf_mul0 k (by omega))
  rw [Nat.zero_mul, nf_zero] at hmc
  obtain ⟨y, hy⟩ : ∃ y, y = nf k := ⟨_, rfl⟩
  rw [← hy] at h0 h1 hmc ⊢
  obtain ⟨-, d1, -, d3, d4⟩ := DS.cells h
  have f1 := DS.free h 1
  have hd1 := DS.set1 h (.float .f64 0)
  have HD1 := Lib.hid hd1
  clear h hd1 hy
  obtain ⟨w1, hw1⟩ : ∃ w1, w1 = w.setCell ⟨p, 1, none⟩ (.float .f64 0) := ⟨_, rfl⟩
  have hF1 : Fr (fun b => b = p) w w1 := by rw [hw1]; exact (show Fr (fun b => b = p) w w from Fr.refl _ w).setCell (p := ⟨p, 1, none⟩) (fun _ => rfl) _
  have HF1 := Lib.hid hF1
  clear hF1
  rw [← hw1] at HD1
  go_enter Tryz.func210, Tryz.ntmps210
  go_wp2
  rw [← hw1]
  clear hw1 d1 d3 d4 f1 hmc
  have hd := HD1.out
  obtain ⟨-, -, -, -, d4⟩ := DS.cells hd
  clear hd
  go_loopw [5] (fun i wr => i = .int .i64 2147483647 ∧ wr = w1) (fun _ _ => 0)
  case atStart => exact ⟨rfl, rfl⟩
  case round =>
    obtain ⟨rfl, rfl⟩ := hrel
    go_wp2
    go_ret
    exact ⟨rfl, HD1.out, HF1.out⟩

theorem f_le {f : Int → Nat} {n : Nat} {mn mx : Int} (ht : n = tot2 f) (hz : ∀ i, i < mn ∨ mx < i → f i = 0) (lo : -10000 ≤ mn) (hi : mx ≤ 10000) (i : Int) : f i ≤ n := by
  by_cases c : i < mn ∨ mx < i
  · rw [hz i c]; exact Nat.zero_le _
  · rw [ht]; exact one_le_tot f i (by omega) (by omega)

theorem LowPre.mul {f : Int → Nat} {n most : Nat} {col : Bool} {mn mx : Int} {p g L cp k : Nat} {T : TypeId} {w w' : World} (h : LowPre f n most col mn mx p g L cp T w) (hk : 0 < k) (hn : n * k < 9007199254740992)
   (hok : DenseOk (fun i => f i * k) (.float .f64 (nf (n * k))) mn mx p g L cp (lrest most col) T w') : LowPre (fun i => f i * k) (n * k) most col mn mx p g L cp T w' where
  ok := hok
  ne := h.ne
  zero := fun i hi => by rw [h.zero i hi, Nat.zero_mul]
  le := h.le
  pos := Nat.mul_pos h.pos hk
  lt := hn
  tot := by rw [tot2_mul, ← h.tot]
  lo := h.lo
  hi := h.hi
  len := h.len
  most0 := h.most0
  most1 := h.most1
  full := h.full

/-- Weighed by one: as it was. -/
theorem weighed_one {kind : Int} {K : StoreKind kind} {most : Int} {xs : Bins} {S : Nat → Prop} {p : Nat} {w w' : World} {e : Ending} (h : K.St most xs S p w) (he : e = .returned .nilIface ∧ w' = w) :
    e = .returned .nilIface ∧ ∃ S', K.St most (mulB 1 xs) S' p w' ∧ Fr S w w' ∧ ∀ b, S' b → S b ∨ w.heap.size ≤ b := by
  obtain ⟨rfl, rfl⟩ := he
  exact ⟨rfl, S, by rw [mulB_one]; exact h, Fr.refl _ _, fun b hb => .inl hb⟩

def weighD : WeighKind kindD where
  fW := 210
  mW := fun _ _ => by kernel_rfl
  eW := enters_of Tryz.func210 (by kernel_rfl) rfl
  cW := fun most xs S p k w h hf hk1 hk2 ht hl => by
    by_cases hk : k = 1
    · subst hk
      exact (reweighD1_any _ w).mono fun e w' he => weighed_one h he
    have h' : StD most xs S p w := h
    have hnk : tot xs * k < 9007199254740992 := by
      have := Nat.mul_le_mul (Nat.le_of_lt ht) hk2; omega
    rcases h' with ⟨rfl, h2, h3⟩ | ⟨mn, mx, g, L, cp, h1, h2, h3, h4⟩
    · refine (reweighDE_any p k [] 171 w h2 (by omega) hk2).mono ?_
      rintro e w' ⟨rfl, he, hfr⟩
      exact ⟨rfl, S, .inl ⟨rfl, he, h3⟩, hfr.mono (fun b _ hb => (h3 b).2 hb), fun b hb => .inl hb⟩
    · refine (reweighD_any (cntB xs) (tot xs) k mn mx p g L cp [] 171 w h1.ok h1.ne (by omega) hk2 hnk (f_le (tot2_cnt hf.inR).symm h1.zero h1.lo h1.hi) h1.zero h1.le h1.lo h1.hi).mono ?_
      rintro e w' ⟨rfl, hok, hfr⟩
      refine ⟨rfl, S, .inr ⟨mn, mx, g, L, cp, ?_, ?_, ?_, h4⟩, hfr.mono (fun b _ hb => (h4 b).2 hb), fun b hb => .inl hb⟩
      · rw [mulB_cnt, mulB_tot]
        exact ⟨hok, h1.ne, fun i hi => by rw [h1.zero i hi, Nat.zero_mul], h1.le, Nat.mul_pos h1.pos (by omega), hnk, h1.lo, h1.hi, h1.len⟩
      · rw [mulB_cnt]; exact Nat.mul_pos h2 (by omega)
      · rw [mulB_cnt]; exact Nat.mul_pos h3 (by omega)

def weighL : WeighKind kindL where
  fW := 210
  mW := fun _ _ => by kernel_rfl
  eW := enters_of Tryz.func210 (by kernel_rfl) rfl
  cW := fun most xs S p k w h hf hk1 hk2 ht hl => by
    by_cases hk : k = 1
    · subst hk
      exact (reweighD1_any _ w).mono fun e w' he => weighed_one h he
    have h' : StL most xs S p w := h
    obtain ⟨m, rfl, hm1, hm2, h'⟩ := h'
    have hnk : tot xs * k < 9007199254740992 := by
      have := Nat.mul_le_mul (Nat.le_of_lt ht) hk2; omega
    rcases h' with ⟨rfl, h2, h3⟩ | ⟨col, mn, mx, g, L, cp, h1, h2, h3, h4, h5⟩
    · refine (reweighDE_any p k _ _ w h2 (by omega) hk2).mono ?_
      rintro e w' ⟨rfl, he, hfr⟩
      exact ⟨rfl, S, ⟨m, rfl, hm1, hm2, .inl ⟨rfl, he, h3⟩⟩, hfr.mono (fun b _ hb => (h3 b).2 hb), fun b hb => .inl hb⟩
    · refine (reweighD_any _ (tot xs) k mn mx p g L cp _ _ w h1.ok h1.ne (by omega) hk2 hnk (f_le h1.tot h1.zero h1.lo h1.hi) h1.zero h1.le h1.lo h1.hi).mono ?_
      rintro e w' ⟨rfl, hok, hfr⟩
      refine ⟨rfl, S, ⟨m, rfl, hm1, hm2, .inr ⟨col, mn, mx, g, L, cp, ?_, fun i hi => ?_, ?_, ?_, h5⟩⟩, hfr.mono (fun b _ hb => (h5 b).2 hb), fun b hb => .inl hb⟩
      · rw [mulB_cnt, mulB_tot, sqL_mul]
        exact h1.mul (by omega) hnk hok
      · rw [mulB_cnt]; show cntB xs i * k = 0; rw [h2 i hi, Nat.zero_mul]
      · rw [mulB_cnt]; exact Nat.mul_pos h3 (by omega)
      · rw [mulB_cnt, sqL_mul]; exact Nat.mul_pos h4 (by omega)

def weighH : WeighKind kindH where
  fW := 210
  mW := fun _ _ => by kernel_rfl
  eW := enters_of Tryz.func210 (by kernel_rfl) rfl
  cW := fun most xs S p k w h hf hk1 hk2 ht hl => by
    by_cases hk : k = 1
    · subst hk
      exact (reweighD1_any _ w).mono fun e w' he => weighed_one h he
    have h' : StH most xs S p w := h
    obtain ⟨m, rfl, hm1, hm2, h'⟩ := h'
    have hnk : tot xs * k < 9007199254740992 := by
      have := Nat.mul_le_mul (Nat.le_of_lt ht) hk2; omega
    rcases h' with ⟨rfl, h2, h3⟩ | ⟨col, mn, mx, g, L, cp, h1, h2, h3, h4, h5⟩
    · refine (reweighDE_any p k _ _ w h2 (by omega) hk2).mono ?_
      rintro e w' ⟨rfl, he, hfr⟩
      exact ⟨rfl, S, ⟨m, rfl, hm1, hm2, .inl ⟨rfl, he, h3⟩⟩, hfr.mono (fun b _ hb => (h3 b).2 hb), fun b hb => .inl hb⟩
    · refine (reweighD_any _ (tot xs) k mn mx p g L cp _ _ w h1.ok h1.ne (by omega) hk2 hnk (f_le h1.tot h1.zero h1.lo h1.hi) h1.zero h1.le h1.lo h1.hi).mono ?_
      rintro e w' ⟨rfl, hok, hfr⟩
      refine ⟨rfl, S, ⟨m, rfl, hm1, hm2, .inr ⟨col, mn, mx, g, L, cp, ?_, fun i hi => ?_, ?_, ?_, h5⟩⟩, hfr.mono (fun b _ hb => (h5 b).2 hb), fun b hb => .inl hb⟩
      · rw [mulB_cnt, mulB_tot, sqH_mul]
        exact h1.mul (by omega) hnk hok
      · rw [mulB_cnt]; show cntB xs i * k = 0; rw [h2 i hi, Nat.zero_mul]
      · rw [mulB_cnt]; exact Nat.mul_pos h3 (by omega)
      · rw [mulB_cnt, sqH_mul]; exact Nat.mul_pos h4 (by omega)

set_option maxRecDepth 100000 in
theorem reweighS1_any (p : Value) (w : World) : Calls Tryz.prog 255 #[p, .float .f64 (nf 1)] w fun e w' => e = .returned .nilIface ∧ w' = w := by
  have h0 : (FloatKind.f64.format.order 4607182418800017408 0 == some .lt || FloatKind.f64.format.order 4607182418800017408 0 == some .eq) = false := by decide +kernel
  have h1 : (FloatKind.f64.format.order 4607182418800017408 4607182418800017408 == some .eq) = true := by decide +kernel
  rw [nf_one]
  go_enter Tryz.func255, Tryz.ntmps255
  go_wp2
  go_ret
  exact ⟨rfl, rfl⟩

def weighS : WeighKind kindS where
  fW := 255
  mW := fun _ _ => by kernel_rfl
  eW := enters_of Tryz.func255 (by kernel_rfl) rfl
  cW := fun most xs S p k w h hf hk1 hk2 ht hl => by
    by_cases hk : k = 1
    · subst hk
      exact (reweighS1_any _ w).mono fun e w' he => weighed_one h he
    obtain ⟨b, h1, h2⟩ := id h
    refine (reweighS_any (cntB xs) p b xs.length k w h1 (by omega) (by omega) hk2 (fun i hi => cntB_inR hf.inR i hi) (by rw [tot2_cnt hf.inR]; omega)).mono ?_
    rintro e w' ⟨rfl, hsp, hfr⟩
    refine ⟨rfl, S, ⟨b, ?_, h2⟩, hfr.mono (fun c _ hc => (h2 c).2 (.inr hc)), fun c hc => .inl hc⟩
    rw [mulB_cnt, mulB_length]; exact hsp
end Go.Proofs.YtnmbjalojgccmaaGreat
end
