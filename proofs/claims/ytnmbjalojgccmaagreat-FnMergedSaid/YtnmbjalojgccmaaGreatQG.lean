/-
  Counts below an index; counts of which the lowest (the highest) ones are put together; plainly.
-/
import Derived.Test.YtnmbjalojgccmaaGreatQF
section
namespace Go.Proofs.YtnmbjalojgccmaaGreat
open Go.RowKit

/-- The counts of k indexes from a on. -/
def sumF (f : Int → Nat) (a : Int) : Nat → Nat
  | 0 => 0
  | k + 1 => sumF f a k + f (a + (k : Int))

theorem sumF_congr {f g : Int → Nat} {a : Int} {k : Nat} (h : ∀ j : Nat, j < k → f (a + j) = g (a + j)) : sumF f a k = sumF g a k := by
  induction k with
  | zero => rfl
  | succ k ih => rw [sumF, sumF, ih (fun j hj => h j (by omega)), h k (by omega)]
theorem sumF_zero {f : Int → Nat} {a : Int} {k : Nat} (h : ∀ j : Nat, j < k → f (a + j) = 0) : sumF f a k = 0 := by
  induction k with
  | zero => rfl
  | succ k ih => rw [sumF, ih (fun j hj => h j (by omega)), h k (by omega)]
theorem sumF_add (f : Int → Nat) (a : Int) (k m : Nat) : sumF f a (k + m) = sumF f a k + sumF f (a + k) m := by
  induction m with
  | zero => rfl
  | succ m ih => rw [← Nat.add_assoc, sumF, ih, sumF, Nat.add_assoc, show a + ((k + m : Nat) : Int) = a + (k : Int) + (m : Int) from by omega]
theorem sumF_addAt (f : Int → Nat) (a i : Int) (c k : Nat) : sumF (addAt f i c) a k = sumF f a k + if a ≤ i ∧ i < a + k then c else 0 := by
  induction k with
  | zero => rw [if_neg (by omega)]; rfl
  | succ k ih =>
    rw [sumF, ih, sumF]
    unfold addAt
    by_cases h : a + (k : Int) = i
    · rw [if_pos h, if_neg (by omega), if_pos (by omega)]; omega
    · rw [if_neg h]
      by_cases h2 : a ≤ i ∧ i < a + (k : Int)
      · rw [if_pos h2, if_pos (by omega)]; omega
      · rw [if_neg h2, if_neg (by omega)]; omega
theorem sumF_one (f : Int → Nat) (a : Int) (k j : Nat) (h : j < k) : f (a + j) ≤ sumF f a k := by
  induction k with
  | zero => omega
  | succ k ih =>
    rw [sumF]
    by_cases hj : j = k
    · subst hj; omega
    · have := ih (by omega); omega

/-- The counts below x, of indexes from -10000 on. -/
def cum (f : Int → Nat) (x : Int) : Nat := sumF f (-10000) (x + 10000).toNat
theorem cum_def (f : Int → Nat) (x : Int) : cum f x = sumF f (-10000) (x + 10000).toNat := rfl
/-- All counts of indexes up to 10000. -/
def tot2 (f : Int → Nat) : Nat := cum f 10001
theorem tot2_def (f : Int → Nat) : tot2 f = cum f 10001 := rfl

theorem cum_succ (f : Int → Nat) (x : Int) (h : -10000 ≤ x) : cum f (x + 1) = cum f x + f x := by
  obtain ⟨k, rfl⟩ : ∃ k : Nat, x = -10000 + (k : Int) := ⟨(x + 10000).toNat, by omega⟩
  rw [cum_def, cum_def, show (-10000 + (k : Int) + 1 + 10000).toNat = k + 1 from by omega, show (-10000 + (k : Int) + 10000).toNat = k from by omega, sumF]
theorem cum_split (f : Int → Nat) (x y : Int) (h1 : -10000 ≤ x) (h2 : x ≤ y) : cum f y = cum f x + sumF f x (y - x).toNat := by
  rw [cum_def, cum_def, show (y + 10000).toNat = (x + 10000).toNat + (y - x).toNat from by omega, sumF_add, show (-10000 + ((x + 10000).toNat : Int)) = x from by omega]
theorem cum_mono (f : Int → Nat) (x y : Int) (h2 : x ≤ y) : cum f x ≤ cum f y := by
  by_cases h : -10000 ≤ x
  · rw [cum_split f x y h h2]; omega
  · rw [cum_def f x, show (x + 10000).toNat = 0 from by omega, sumF]; omega
theorem cum_same (f : Int → Nat) (x y : Int) (h2 : x ≤ y) (hz : ∀ i, x ≤ i → i < y → f i = 0) : cum f y = cum f x := by
  by_cases h : -10000 ≤ x
  · rw [cum_split f x y h h2, sumF_zero (fun j hj => hz _ (by omega) (by omega)), Nat.add_zero]
  · by_cases h3 : -10000 ≤ y
    · rw [cum_def f x, show (x + 10000).toNat = 0 from by omega, sumF, cum_def, sumF_zero (fun j hj => hz _ (by omega) (by omega))]
    · rw [cum_def, cum_def, show (x + 10000).toNat = 0 from by omega, show (y + 10000).toNat = 0 from by omega]
theorem cum_none (f : Int → Nat) (x : Int) (hz : ∀ i, i < x → f i = 0) : cum f x = 0 := by
  rw [cum_def]; exact sumF_zero (fun j hj => hz _ (by omega))
theorem cum_congr {f g : Int → Nat} {x : Int} (h : ∀ i, i < x → f i = g i) : cum f x = cum g x := by
  rw [cum_def, cum_def]; exact sumF_congr (fun j hj => h _ (by omega))
theorem cum_addAt (f : Int → Nat) (i x : Int) (c : Nat) (h : -10000 ≤ i) : cum (addAt f i c) x = cum f x + if i < x then c else 0 := by
  rw [cum_def, cum_def, sumF_addAt]
  by_cases hi : i < x
  · rw [if_pos (by omega), if_pos hi]
  · rw [if_neg (by omega), if_neg hi]
theorem cum_le_tot (f : Int → Nat) (x : Int) (h : x ≤ 10001) : cum f x ≤ tot2 f := cum_mono f x _ h
theorem one_le_tot (f : Int → Nat) (i : Int) (h1 : -10000 ≤ i) (h2 : i ≤ 10000) : f i ≤ tot2 f := by
  have := cum_le_tot f (i + 1) (by omega)
  rw [cum_succ f i h1] at this; omega
theorem tot2_addAt (f : Int → Nat) (i : Int) (c : Nat) (h1 : -10000 ≤ i) (h2 : i ≤ 10000) : tot2 (addAt f i c) = tot2 f + c := by
  rw [tot2_def, cum_addAt f i _ c h1, if_pos (by omega), tot2_def]
theorem tot2_eq (f : Int → Nat) (x : Int) (h : x ≤ 10001) (hz : ∀ i, x ≤ i → f i = 0) : tot2 f = cum f x := cum_same f x 10001 h (fun i h1 _ => hz i h1)

/-- Counts of which those below lo are put to lo. -/
def sqL (f : Int → Nat) (lo : Int) : Int → Nat := fun i => if i < lo then 0 else if i = lo then cum f (lo + 1) else f i
/-- Counts of which those above hi are put to hi. -/
def sqH (f : Int → Nat) (hi : Int) : Int → Nat := fun i => if hi < i then 0 else if i = hi then tot2 f - cum f hi else f i

theorem sqL_none (f : Int → Nat) (lo : Int) (h : ∀ i, i < lo → f i = 0) (hl : ∀ i, i < -10000 → f i = 0) : sqL f lo = f := by
  funext i
  unfold sqL
  by_cases h1 : i < lo
  · rw [if_pos h1, h i h1]
  · rw [if_neg h1]
    by_cases h2 : i = lo
    · subst h2
      rw [if_pos rfl]
      by_cases h3 : -10000 ≤ i
      · rw [cum_succ f i h3, cum_none f i h, Nat.zero_add]
      · rw [cum_none f (i + 1) (fun j hj => hl j (by omega)), hl i (by omega)]
    · rw [if_neg h2]
theorem cum_sqL (f : Int → Nat) (lo x : Int) (h0 : -10000 ≤ lo) : cum (sqL f lo) x = if lo < x then cum f x else 0 := by
  by_cases h : lo < x
  · rw [if_pos h, cum_split _ (lo + 1) x (by omega) (by omega), cum_split f (lo + 1) x (by omega) (by omega), cum_succ _ lo h0, cum_none (sqL f lo) lo (fun i hi => by unfold sqL; rw [if_pos hi])]
    congr 1
    · unfold sqL; rw [if_neg (by omega), if_pos rfl, Nat.zero_add]
    · exact sumF_congr (fun j hj => by unfold sqL; rw [if_neg (by omega), if_neg (by omega)])
  · rw [if_neg h]
    exact cum_none _ x (fun i hi => by unfold sqL; rw [if_pos (by omega)])
theorem tot2_sqL (f : Int → Nat) (lo : Int) (h0 : -10000 ≤ lo) (h1 : lo ≤ 10000) : tot2 (sqL f lo) = tot2 f := by
  rw [tot2_def, cum_sqL f lo _ h0, if_pos (by omega), tot2_def]
theorem sqL_sqL (f : Int → Nat) (lo lo2 : Int) (h0 : -10000 ≤ lo) (h : lo ≤ lo2) : sqL (sqL f lo) lo2 = sqL f lo2 := by
  funext i
  show (if i < lo2 then 0 else if i = lo2 then cum (sqL f lo) (lo2 + 1) else sqL f lo i) = _
  have e : cum (sqL f lo) (lo2 + 1) = cum f (lo2 + 1) := by rw [cum_sqL f lo _ h0, if_pos (by omega)]
  rw [e]
  show _ = if i < lo2 then 0 else if i = lo2 then cum f (lo2 + 1) else f i
  by_cases h1 : i < lo2
  · rw [if_pos h1, if_pos h1]
  · rw [if_neg h1, if_neg h1]
    by_cases h2 : i = lo2
    · rw [if_pos h2, if_pos h2]
    · rw [if_neg h2, if_neg h2]; unfold sqL; rw [if_neg (by omega), if_neg (by omega)]
theorem sqL_addAt (f : Int → Nat) (i lo : Int) (c : Nat) (h : -10000 ≤ i) : addAt (sqL f lo) (max i lo) c = sqL (addAt f i c) lo := by
  funext j
  show (if j = max i lo then sqL f lo j + c else sqL f lo j) = if j < lo then 0 else if j = lo then cum (addAt f i c) (lo + 1) else addAt f i c j
  rw [cum_addAt f i _ c h]
  unfold sqL addAt
  by_cases h1 : j < lo
  · rw [if_pos h1, if_pos h1, if_neg (by omega)]
  · rw [if_neg h1, if_neg h1]
    by_cases h2 : j = lo
    · rw [if_pos h2, if_pos h2]
      by_cases h3 : i ≤ lo
      · rw [if_pos (by omega), if_pos (by omega)]
      · rw [if_neg (by omega), if_neg (by omega), Nat.add_zero]
    · rw [if_neg h2, if_neg h2]
      by_cases h3 : j = i
      · rw [if_pos h3, if_pos (by omega)]
      · rw [if_neg h3, if_neg (by omega)]

theorem cum_sqH (f : Int → Nat) (hi x : Int) (h0 : -10000 ≤ hi) (h1 : hi ≤ 10000) : cum (sqH f hi) x = if hi < x then tot2 f else cum f x := by
  have hb : cum (sqH f hi) hi = cum f hi := cum_congr (fun i h => by unfold sqH; rw [if_neg (by omega), if_neg (by omega)])
  by_cases h : hi < x
  · rw [if_pos h, cum_same (sqH f hi) (hi + 1) x (by omega) (fun i h2 _ => by unfold sqH; rw [if_pos (by omega)]), cum_succ _ hi h0, hb]
    have := cum_le_tot f hi (by omega)
    unfold sqH; rw [if_neg (by omega), if_pos rfl]; omega
  · rw [if_neg h]
    exact cum_congr (fun i h => by unfold sqH; rw [if_neg (by omega), if_neg (by omega)])
theorem tot2_sqH (f : Int → Nat) (hi : Int) (h0 : -10000 ≤ hi) (h1 : hi ≤ 10000) : tot2 (sqH f hi) = tot2 f := by
  rw [tot2_def, cum_sqH f hi _ h0 h1, if_pos (by omega)]
theorem sqH_none (f : Int → Nat) (hi : Int) (h0 : -10000 ≤ hi) (h : ∀ i, hi < i → f i = 0) (hl : ∀ i, 10000 < i → f i = 0) : sqH f hi = f := by
  funext i
  unfold sqH
  by_cases h1 : hi < i
  · rw [if_pos h1, h i h1]
  · rw [if_neg h1]
    by_cases h2 : i = hi
    · subst h2
      rw [if_pos rfl]
      by_cases h3 : i ≤ 10000
      · rw [tot2_eq f (i + 1) (by omega) (fun j hj => h j (by omega)), cum_succ f i h0]; omega
      · have := cum_mono f 10001 i (by omega)
        rw [hl i (by omega), tot2_def]; omega
    · rw [if_neg h2]
theorem sqH_sqH (f : Int → Nat) (hi hi2 : Int) (h0 : -10000 ≤ hi2) (h1 : hi ≤ 10000) (h : hi2 ≤ hi) : sqH (sqH f hi) hi2 = sqH f hi2 := by
  funext i
  show (if hi2 < i then 0 else if i = hi2 then tot2 (sqH f hi) - cum (sqH f hi) hi2 else sqH f hi i) = _
  have e : cum (sqH f hi) hi2 = cum f hi2 := by rw [cum_sqH f hi _ (by omega) h1, if_neg (by omega)]
  rw [e, tot2_sqH f hi (by omega) h1]
  show _ = if hi2 < i then 0 else if i = hi2 then tot2 f - cum f hi2 else f i
  by_cases h1 : hi2 < i
  · rw [if_pos h1, if_pos h1]
  · rw [if_neg h1, if_neg h1]
    by_cases h2 : i = hi2
    · rw [if_pos h2, if_pos h2]
    · rw [if_neg h2, if_neg h2]; unfold sqH; rw [if_neg (by omega), if_neg (by omega)]
theorem sqH_addAt (f : Int → Nat) (i hi : Int) (c : Nat) (h : -10000 ≤ i) (h2 : i ≤ 10000) (hh : hi ≤ 10000) : addAt (sqH f hi) (min i hi) c = sqH (addAt f i c) hi := by
  funext j
  show (if j = min i hi then sqH f hi j + c else sqH f hi j) = if hi < j then 0 else if j = hi then tot2 (addAt f i c) - cum (addAt f i c) hi else addAt f i c j
  have hle := cum_le_tot f hi (by omega)
  rw [cum_addAt f i _ c h, tot2_addAt f i c h h2]
  unfold sqH addAt
  by_cases h1 : hi < j
  · rw [if_pos h1, if_pos h1, if_neg (by omega)]
  · rw [if_neg h1, if_neg h1]
    by_cases h2 : j = hi
    · rw [if_pos h2, if_pos h2]
      by_cases h3 : hi ≤ i
      · rw [if_pos (by omega), if_neg (by omega)]; omega
      · rw [if_neg (by omega), if_pos (by omega)]; omega
    · rw [if_neg h2, if_neg h2]
      by_cases h3 : j = i
      · rw [if_pos h3, if_pos (by omega)]
      · rw [if_neg h3, if_neg (by omega)]
end Go.Proofs.YtnmbjalojgccmaaGreat
end
/-
  What a dense store tells: TotalCount, MinIndex, MaxIndex, KeyAtRank.
-/
section
namespace Go.Proofs.YtnmbjalojgccmaaGreat
open Go.RowKit

set_option maxRecDepth 100000 in
theorem totalD_any (p : Nat) (c : Value) (w : World) (h : w.cell? ⟨p, 1, none⟩ = some c) :
    Calls Tryz.prog 211 #[.pointer (some ⟨p, 0, none⟩)] w fun e w' => e = .returned c ∧ w' = w := by
  go_enter Tryz.func211, Tryz.ntmps211
  go_wp2
  go_ret
  exact ⟨rfl, rfl⟩

set_option maxRecDepth 100000 in
theorem minD_any (p n : Nat) (hn : n < 9007199254740992) (h0 : 0 < n) (m : Int) (w : World) (h1 : w.cell? ⟨p, 1, none⟩ = some (.float .f64 (nf n))) (h3 : w.cell? ⟨p, 3, none⟩ = some (.int .i64 m)) :
    Calls Tryz.prog 209 #[.pointer (some ⟨p, 0, none⟩)] w fun e w' => e = .returned (.tuple #[.int .i64 m, .nilIface]) ∧ w' = w := by
  have HE := isEmptyD_any p n hn w h1
  rw [show (n == 0) = false from by simp; omega] at HE
  clear h1
  go_enter Tryz.func209, Tryz.ntmps209
  go_wp2_with (go_at_call 205; (with_reducible refine HE.mono ?_); rintro e w' ⟨rfl, rfl⟩)
  go_ret2
  exact ⟨rfl, rfl⟩

set_option maxRecDepth 100000 in
theorem maxD_any (p n : Nat) (hn : n < 9007199254740992) (h0 : 0 < n) (m : Int) (w : World) (h1 : w.cell? ⟨p, 1, none⟩ = some (.float .f64 (nf n))) (h3 : w.cell? ⟨p, 4, none⟩ = some (.int .i64 m)) :
    Calls Tryz.prog 207 #[.pointer (some ⟨p, 0, none⟩)] w fun e w' => e = .returned (.tuple #[.int .i64 m, .nilIface]) ∧ w' = w := by
  have HE := isEmptyD_any p n hn w h1
  rw [show (n == 0) = false from by simp; omega] at HE
  clear h1
  go_enter Tryz.func207, Tryz.ntmps207
  go_wp2_with (go_at_call 205; (with_reducible refine HE.mono ?_); rintro e w' ⟨rfl, rfl⟩)
  go_ret2
  exact ⟨rfl, rfl⟩

set_option maxRecDepth 100000 in
theorem minDE_any (p : Nat) (w : World) (h1 : w.cell? ⟨p, 1, none⟩ = some (.float .f64 0)) :
    Calls Tryz.prog 209 #[.pointer (some ⟨p, 0, none⟩)] w fun e w' => (∃ T v, e = .returned (.tuple #[.int .i64 0, .iface T v])) ∧ w' = w := by
  have HE := isEmptyD_any p 0 (by decide) w (by rw [nf_zero]; exact h1)
  rw [show ((0 : Nat) == 0) = true from rfl] at HE
  clear h1
  go_enter Tryz.func209, Tryz.ntmps209
  go_wp2_with (go_at_call 205; (with_reducible refine HE.mono ?_); rintro e w' ⟨rfl, rfl⟩)
  go_ret2
  exact ⟨⟨_, _, rfl⟩, rfl⟩

set_option maxRecDepth 100000 in
theorem maxDE_any (p : Nat) (w : World) (h1 : w.cell? ⟨p, 1, none⟩ = some (.float .f64 0)) :
    Calls Tryz.prog 207 #[.pointer (some ⟨p, 0, none⟩)] w fun e w' => (∃ T v, e = .returned (.tuple #[.int .i64 0, .iface T v])) ∧ w' = w := by
  have HE := isEmptyD_any p 0 (by decide) w (by rw [nf_zero]; exact h1)
  rw [show ((0 : Nat) == 0) = true from rfl] at HE
  clear h1
  go_enter Tryz.func207, Tryz.ntmps207
  go_wp2_with (go_at_call 205; (with_reducible refine HE.mono ?_); rintro e w' ⟨rfl, rfl⟩)
  go_ret2
  exact ⟨⟨_, _, rfl⟩, rfl⟩
end Go.Proofs.YtnmbjalojgccmaaGreat
end
/-
  KeyAtRank and Bins of a dense store.
-/
section
namespace Go.Proofs.YtnmbjalojgccmaaGreat
open Go.RowKit

/-- The index of a rank, by counts. -/
def KeyIs (f : Int → Nat) (r : Nat) (k : Int) : Prop := fgt2 (nf (cum f (k + 1))) r = true ∧ ∀ x, x < k → fgt2 (nf (cum f (x + 1))) r = false

/-- The indexes with counts, of k from a on. -/
def nz (f : Int → Nat) (a : Int) : Nat → List (Int × Nat)
  | 0 => []
  | k + 1 => nz f a k ++ if 0 < f (a + (k : Int)) then [(a + (k : Int), f (a + (k : Int)))] else []

def KeyDRel (f : Int → Nat) (r : Nat) (off : Int) (L : Nat) (w wr : World) (v i : Value) : Prop :=
  ∃ k : Nat, k ≤ L ∧ i = .int .i64 (k : Int) ∧ v = .float .f64 (nf (cum f (off + k))) ∧ wr = w ∧ Hid (∀ x, x < off + k → fgt2 (nf (cum f (x + 1))) r = false)

set_option maxRecDepth 100000 in
set_option maxHeartbeats 400000 in
theorem keyD_any (f : Int → Nat) (n r : Nat) (mn mx : Int) (p g L cp : Nat) (rest : List Value) (T : TypeId) (w : World) (h : DenseOk f (.float .f64 (nf n)) mn mx p g L cp rest T w)
   (hf : ∀ i, i < mn ∨ mx < i → f i = 0) (hn : n = tot2 f) (hs : n < 9007199254740992) (hlo : -10000 ≤ mn) (hhi : mx ≤ 10000) (hL : L ≤ 1000000)
   (hr0 : (FloatKind.f64.format.order r 0 == some .lt) = false) (hr1 : fgt2 (nf 0) r = false) (hr2 : fgt2 (nf n) r = true) :
    Calls Tryz.prog 206 #[.pointer (some ⟨p, 0, none⟩), .float .f64 r] w fun e w' => (∃ k, e = .returned (.int .i64 k) ∧ KeyIs f r k) ∧ w' = w := by
  obtain ⟨off, hd, hr, o1, o2, o3, o4⟩ := h
  obtain ⟨d0, -, d2, -, -⟩ := hd.cells
  have HR := Lib.hid hr
  have HF := Lib.hid hf
  have HN := Lib.hid hn
  have HS := Lib.hid hs
  have HR1 := Lib.hid hr1
  have HR2 := Lib.hid hr2
  clear hd hr hf hn hs hr1 hr2
  go_enter Tryz.func206, Tryz.ntmps206
  go_wp2
  go_loopw [5, 15] (fun v i wr => KeyDRel f r off L w wr v i) (fun _ i _ => L - (intOf i).toNat)
  case atStart =>
    refine ⟨0, Nat.zero_le _, rfl, ?_, rfl, fun x hx => ?_⟩
    · rw [cum_none f _ (fun i hi => HF.out i (by omega)), nf_zero]
    · rw [cum_none f _ (fun i hi => HF.out i (by omega))]; exact HR1.out
  case round =>
    obtain ⟨k, hk, rfl, rfl, rfl, HK⟩ := hrel
    by_cases hlt : k < L
    · have hlt2 : (k : Int) < (L : Int) := by omega
      have hcell := HR.out.cell k hlt
      have hbig : Hid (off + (k : Int) < mn ∨ -10000 ≤ off + (k : Int)) := by show _ ∨ _; omega
      have hsum : cum f (off + (k : Int)) + f (off + (k : Int)) = cum f (off + ((k + 1 : Nat) : Int)) := by
        rw [show off + ((k + 1 : Nat) : Int) = off + (k : Int) + 1 from by omega]
        rcases hbig.out with h | h
        · rw [HF.out _ (.inl h), cum_none f _ (fun i hi => HF.out i (by omega)), cum_none f _ (fun i hi => HF.out i (by omega))]
        · rw [cum_succ f _ h]
      have hle : cum f (off + ((k + 1 : Nat) : Int)) ≤ tot2 f := by
        by_cases h : off + ((k + 1 : Nat) : Int) ≤ 10001
        · exact cum_le_tot f _ h
        · rw [tot2_def, cum_same f 10001 _ (by omega) (fun i h1 _ => HF.out i (by omega))]; omega
      have hadd := fun w : World => run_float_arith (P := Tryz.prog) w .add 30 .f64 _ _ _ (nf_add (cum f (off + (k : Int))) (f (off + (k : Int))) (by have := HN.out; have := HS.out; omega))
      rw [hsum] at hadd
      obtain ⟨y, hy⟩ : ∃ y, y = nf (cum f (off + ((k + 1 : Nat) : Int))) := ⟨_, rfl⟩
      rw [← hy] at hadd
      have HY := Lib.hid hy
      have i1 : IntKind.i64.wrap ((k : Int) + off) = (k : Int) + off := by rw [IntKind.wrap_i64]; omega
      clear hy hsum hle hbig
      cases hc : (FloatKind.f64.format.order y r == some .gt)
      · have hrel' : Hid (∀ x, x < off + ((k + 1 : Nat) : Int) → fgt2 (nf (cum f (x + 1))) r = false) := by
          intro x hx
          by_cases hxk : x < off + (k : Int)
          · exact HK.out x hxk
          · have hc' : fgt2 y r = false := hc
            rw [HY.out] at hc'
            rw [show x + 1 = off + ((k + 1 : Nat) : Int) from by omega]
            exact hc'
        clear HK
        go_wp2
        go_roundw
        case rel => exact ⟨k + 1, by omega, by go_num, by rw [HY.out], rfl, hrel'.out⟩
        case measure => simp [intOf]; omega
      · have hres : KeyIs f r ((k : Int) + off) := by
          have hc' : fgt2 y r = true := hc
          refine ⟨?_, fun x hx => HK.out x (by omega)⟩
          rw [show (k : Int) + off + 1 = off + ((k + 1 : Nat) : Int) from by omega, ← HY.out]
          exact hc'
        have HRES := Lib.hid hres
        clear HK HY hres
        go_wp2
        go_ret
        exact ⟨⟨_, rfl, HRES.out⟩, rfl⟩
    · exfalso
      obtain rfl : k = L := by omega
      have h1 := HK.out (off + (k : Int) - 1) (by omega)
      rw [show off + (k : Int) - 1 + 1 = off + (k : Int) from by omega] at h1
      have e1 : cum f (off + (k : Int)) = tot2 f := by
        by_cases h : off + (k : Int) ≤ 10001
        · exact (tot2_eq f _ h (fun i hi => HF.out i (by omega))).symm
        · rw [tot2_def, cum_same f 10001 _ (by omega) (fun i h1 _ => HF.out i (by omega))]
      rw [e1, ← HN.out, HR2.out] at h1
      cases h1
end Go.Proofs.YtnmbjalojgccmaaGreat
end
/-
  Bins of a dense store.
-/
section
namespace Go.Proofs.YtnmbjalojgccmaaGreat
open Go.RowKit

section
variable {P : Program}
/-- append(s, x) in a region that draws. -/
theorem wp_append_pair (w : World) (B : Nat) (hB : w.heap.size = B) (i : Int) (b : Nat) {o : Oper} {a : Act} {K : Act → World → Prop} {Q : Exit → Act → World → Prop} (s x : Operand) (tS tE : TypeId)
    (ho : o.op = .call { callee := .builtin .append, args := #[s, x], argTypes := #[tS, tS] })
    (z : Value) (bytes : Nat) (ht : P.underlying tS = some (.slice tE)) (hinfo : (P.info? tE).map (fun i => (i.zero, i.size, i.bytes)) = some (some z, 2, bytes)) (hz : z.cells.size = 2)
    (v : Value) (n : Nat) (ps : List (Int × Nat)) (hs : a.eval s = v) (hown : w.ownsRow 0 tE 2 v n (pc ps)) (hx : a.eval x = .slice (some ⟨B, 0, none⟩) 1 1) (hn : n < 1000000000000) (hby : bytes ≤ 32)
    (h : ∀ ao cp w1, w1.ownsRow 0 tE 2 (.slice ao (n + 1) cp) (n + 1) (pc (ps ++ [(i, b)])) → (w.alloc (.cells #[.int .i64 i, .float .f64 b] tE)).grownBy w1 v.ownBlock →
      ((Value.slice ao (n + 1) cp).ownBlock = v.ownBlock ∨ (Value.slice ao (n + 1) cp).ownBlock = some (B + 1)) → K (a.put o.dst (.slice ao (n + 1) cp)) w1) : o.wp P a (w.alloc (.cells #[.int .i64 i, .float .f64 b] tE)) K Q := by
  subst hB
  obtain ⟨i0, hi, hz0, hz1, hz2⟩ := info_parts hinfo
  have hnew : ∀ j u, (pc [(i, b)])[j]? = some u → (w.alloc (.cells #[.int .i64 i, .float .f64 b] tE)).cell? ((⟨w.heap.size, 0, none⟩ : Addr).add j) = some u := by
    intro j u hj
    have hadd : (⟨w.heap.size, 0, none⟩ : Addr).add j = ⟨w.heap.size, 0 + j, none⟩ := by unfold Addr.add; split <;> simp_all
    rw [hadd, cell_of_row _ _ _ _ _ _ (heap_alloc_new w (.cells #[.int .i64 i, .float .f64 b] tE))]
    simpa [pc] using hj
  refine wp_append_own2 _ s x tS ho tE i0 z 2 bytes ht hi hz0 hz1 hz2 hz (by decide) v n (pc ps) hs (hown.alloc _) ⟨w.heap.size, 0, none⟩ 1 1 (pc [(i, b)]) hx rfl hnew (pc_one _) ?_ ?_ ?_
  · unfold maxLen; omega
  · have : (n + 1) * bytes ≤ (n + 1) * 32 := Nat.mul_le_mul_left _ hby
    omega
  · intro v' w1 h1 h2 h3
    rw [← pc_append] at h1
    obtain ⟨ao, n1, cp, rfl⟩ := owns_slice h1
    obtain rfl := owns_len h1
    exact h ao cp w1 h1 h2 (by simpa using h3)
end

theorem Tryz.infoStB : (Tryz.prog.info? 145).map (fun i => (i.zero, i.size, i.bytes)) = some (some (.agg #[.int .i64 0, .float .f64 0]), 2, 16) := by kernel_rfl

theorem nz_length (f : Int → Nat) (a : Int) (k : Nat) : (nz f a k).length ≤ k := by
  induction k with
  | zero => exact Nat.le_refl _
  | succ k ih => rw [nz, List.length_append]; split <;> simp <;> omega
theorem Own2.drewN {e : TypeId} {w w' : World} {v : Value} {ps : List (Int × Nat)} (h : Own2 e w w' v ps) (n : Nat) : Own2 e w (w'.drewN n) v ps := ⟨h.1, h.2.1, h.2.2, h.2.3, h.2.4, h.2.5⟩
theorem Own2.drew {e : TypeId} {w w' : World} {v : Value} {ps : List (Int × Nat)} (h : Own2 e w w' v ps) : Own2 e w w'.drew v ps := ⟨h.1, h.2.1, h.2.2, h.2.3, h.2.4, h.2.5⟩

def BinsDRel (f : Int → Nat) (mn mx : Int) (w wr : World) (v i : Value) : Prop :=
  ∃ (k : Nat) (ar : Option Addr) (cr : Nat), (k : Int) ≤ mx - mn + 1 ∧ i = .int .i64 (mn + k) ∧ v = .slice ar (nz f mn k).length cr ∧ Own2 145 w wr v (fb (nz f mn k))

set_option maxRecDepth 100000 in
set_option maxHeartbeats 400000 in
theorem binsD_any (f : Int → Nat) (c : Value) (mn mx : Int) (p g L cp : Nat) (rest : List Value) (T : TypeId) (w : World) (h : DenseOk f c mn mx p g L cp rest T w)
   (hs : tot2 f < 9007199254740992) (h1 : mn ≤ mx) (hlo : -10000 ≤ mn) (hhi : mx ≤ 10000) :
    Calls Tryz.prog 199 #[.pointer (some ⟨p, 0, none⟩)] w fun e w' => GivesP 145 (fb (nz f mn (mx - mn + 1).toNat)) w e w' := by
  obtain ⟨off, hd, hr, o1, o2, o3, o4⟩ := h
  have HD := Lib.hid hd
  have HR := Lib.hid hr
  have HS := Lib.hid hs
  obtain ⟨d0, -, d2, d3, d4⟩ := hd.cells
  clear hd hr hs
  go_enter Tryz.func199, Tryz.ntmps199
  go_wp2
  clear d0 d2 d3 d4
  go_loopw [3, 4] (fun v i wr => BinsDRel f mn mx w wr v i) (fun _ i _ => (mx + 1 - intOf i).toNat)
  case atStart => exact ⟨0, none, 0, by omega, by go_num, rfl, Own2.nil _ _⟩
  case round =>
    obtain ⟨k, ar, cr, hk, rfl, rfl, hown⟩ := hrel
    have hdw := HD.out.later hown.2
    have hrw := HR.out.later hown.2
    obtain ⟨d0, -, d2, d3, d4⟩ := hdw.cells
    by_cases hlt : mn + (k : Int) ≤ mx
    · obtain ⟨j, hj⟩ : ∃ j : Nat, mn + (k : Int) - off = (j : Int) := ⟨(mn + (k : Int) - off).toNat, by omega⟩
      have hjL : j < L := by omega
      have hjL' : (j : Int) < (L : Int) := by omega
      have i6 : IntKind.i64.wrap (mn + (k : Int) - off) = (j : Int) := by rw [IntKind.wrap_i64]; omega
      have i7 : IntKind.i64.wrap (mn + (k : Int) + 1) = mn + (k : Int) + 1 := by rw [IntKind.wrap_i64]; omega
      have hcell := hrw.cell j hjL
      rw [show off + (j : Int) = mn + (k : Int) from by omega] at hcell
      have hb := one_le_tot f (mn + (k : Int)) (by omega) (by omega)
      have hord := nf_order (f (mn + (k : Int))) 0 (by have := HS.out; omega) (by decide)
      rw [nf_zero] at hord
      have hlen := nz_length f mn k
      have HO := Lib.hid hown
      have HDW := Lib.hid hdw
      have HRW := Lib.hid hrw
      have HJ := Lib.hid hj
      clear hown hdw hrw hj hb
      by_cases hpos : 0 < f (mn + (k : Int))
      · have hgt : (FloatKind.f64.format.order (nf (f (mn + (k : Int)))) 0 == some .gt) = true := by rw [hord, Nat.compare_eq_gt.2 hpos]; rfl
        have hnz : nz f mn (k + 1) = nz f mn k ++ [(mn + (k : Int), f (mn + (k : Int)))] := by rw [nz, if_pos hpos]
        have HNZ := Lib.hid hnz
        obtain ⟨y, hy⟩ : ∃ y, y = nf (f (mn + (k : Int))) := ⟨_, rfl⟩
        rw [← hy] at hcell hgt
        have HY := Lib.hid hy
        clear hord hpos hnz hy
        go_wp2
        go_quiet (fail)
        go_wp2
        obtain ⟨w0, hw0⟩ : ∃ w0, w0 = wr.drewN nq := ⟨_, rfl⟩
        have ho0 : Own2 145 w w0 (.slice ar (nz f mn k).length cr) (fb (nz f mn k)) := by rw [hw0]; exact HO.out.drewN nq
        have hd0 : DS w0 p rest T (.slice (some ⟨g, 0, none⟩) L cp) c (.int .i64 off) (.int .i64 mn) (.int .i64 mx) := by rw [hw0]; exact HDW.out.drewN nq
        have hr0 : Row w0 g L cp (fun j => f (off + j)) := by rw [hw0]; exact HRW.out.drewN nq
        have hcell0 : w0.cell? ⟨g, j, none⟩ = some (.float .f64 y) := by rw [hw0]; exact hcell
        rw [← hw0]
        clear hw0 d0 d2 d3 d4 hcell
        obtain ⟨d0, -, d2, d3, d4⟩ := hd0.cells
        have ho1 := ho0.1.1
        rw [fb_length] at ho1
        have HO0 := Lib.hid ho0
        clear ho0 hd0 hr0 HO
        go_region_law (rw [if_pos (by rfl)]; refine wp_append_pair w0.drew w0.heap.size rfl (mn + (k : Int)) y _ _ 142 145 rfl (.agg #[.int .i64 0, .float .f64 0]) 16 Tryz.underlying142 Tryz.infoStB rfl (.slice ar (nz f mn k).length cr) (nz f mn k).length (fb (nz f mn k)) rfl ho1 rfl (by omega) (by decide) ?_; intro ao1 cp1 w1 hown' hgrow hblk)
        all_goals
          have hst := HO0.out.drew.step (o := .cells #[.int .i64 (mn + (k : Int)), .float .f64 y] 145) (by rw [fb_length]; exact hown') hgrow hblk
          have HST := Lib.hid hst
          clear hst hown' hgrow hblk ho1 d0 d2 d3 d4 hcell0
          go_wp2
          go_roundw
          case rel =>
            refine ⟨k + 1, ao1, cp1, by omega, by go_num, by rw [HNZ.out, List.length_append]; rfl, ?_⟩
            have h := HST.out
            rw [HY.out] at h
            rw [HNZ.out, fb_append]
            exact h
          case measure => simp [intOf]; omega
      · have hgt : (FloatKind.f64.format.order (nf (f (mn + (k : Int)))) 0 == some .gt) = false := by rw [hord, show f (mn + (k : Int)) = 0 from by omega]; rfl
        have hnz : nz f mn (k + 1) = nz f mn k := by rw [nz, if_neg hpos, List.append_nil]
        have HNZ := Lib.hid hnz
        obtain ⟨y, hy⟩ : ∃ y, y = nf (f (mn + (k : Int))) := ⟨_, rfl⟩
        rw [← hy] at hcell hgt
        clear hord hpos hnz hy
        go_wp2
        go_quiet (fail)
        go_wp2
        go_roundw
        case rel => exact ⟨k + 1, ar, cr, by omega, by go_num, by rw [HNZ.out], by rw [HNZ.out]; exact HO.out.drewN nq⟩
        case measure => simp [intOf]; omega
    · have HO := Lib.hid hown
      clear hown
      go_wp2
      go_ret
      rw [show (mx - mn + 1).toNat = k from by omega]
      exact ⟨ar, cr, by rw [fb_length]; rfl, by rw [fb_length]; exact HO.out⟩
end Go.Proofs.YtnmbjalojgccmaaGreat
end
