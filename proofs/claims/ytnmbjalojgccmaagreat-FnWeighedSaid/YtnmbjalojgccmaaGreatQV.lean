/-
  For the store with pages, plainly: shifts and masks; counts of a list of indexes; the walk over both at once.
-/
import Derived.Test.YtnmbjalojgccmaaGreatQP
import Derived.Laws.BitsAllLaws
section
namespace Go.Proofs.YtnmbjalojgccmaaGreat
open Go.RowKit Ieee

theorem bits31 (x : Int) : bits .and .i64 x 31 = x % 32 := by
  show IntKind.i64.wrap (((BitVec.ofInt 64 x) &&& (BitVec.ofInt 64 31)).toNat : Int) = _
  rw [BitVec.toNat_and, show (BitVec.ofInt 64 31).toNat = 31 from rfl, nat_mask5, BitVec.toNat_ofInt, IntKind.wrap_i64]
  omega
theorem bitsM8 (x : Nat) (h : x < 1000000) : bits .and .i64 (x : Int) (-8) = ((x / 8 * 8 : Nat) : Int) := by
  show IntKind.i64.wrap (((BitVec.ofInt 64 (x : Int)) &&& (BitVec.ofInt 64 (-8))).toNat : Int) = _
  rw [BitVec.toNat_and, show (BitVec.ofInt 64 (-8)).toNat = 2 ^ 64 - 2 ^ 3 from by decide +kernel, nat_midmask 64 3 _ (by decide), BitVec.toNat_ofInt, IntKind.wrap_i64]
  rw [show ((x : Int) % ((2 ^ 64 : Nat) : Int)).toNat = x from by omega, Nat.mod_eq_of_lt (a := x) (b := 2 ^ 64) (by omega)]
  omega

theorem fgt2_mono {a b r : Nat} (hab : a ≤ b) (hb : b < 9007199254740992) (h : fgt2 (nf a) r = true) : fgt2 (nf b) r = true := by
  obtain ⟨m, i, h1, h2, h3⟩ := nf_read a (by omega)
  obtain ⟨n, j, k1, k2, k3⟩ := nf_read b hb
  unfold fgt2 at *
  have e : ∀ x y, FloatKind.f64.format.order x y = (double.read x).order (double.read y) := fun _ _ => rfl
  rw [e, h1] at h
  rw [e, k1]
  cases hr : double.read r with
  | number s q p =>
    obtain ⟨hp, _, _⟩ := read_number hr
    rw [hr, order_sv _ _ _ _ _ _ h2 hp, h3] at h
    rw [order_sv _ _ _ _ _ _ k2 hp, k3]
    have h4 : sv s q p < (a : Int) * 2 ^ 1074 := by
      generalize (a : Int) * 2 ^ 1074 = V at h ⊢
      generalize sv s q p = U at h ⊢
      rcases Int.lt_trichotomy U V with h5 | h5 | h5
      · exact h5
      · rw [h5] at h; simp at h
      · rw [Int.compare_eq_lt.2 h5] at h; cases h
    have h6 : (a : Int) * 2 ^ 1074 ≤ (b : Int) * 2 ^ 1074 := Int.mul_le_mul_of_nonneg_right (by omega) (Int.le_of_lt pow1074_pos)
    rw [Int.compare_eq_gt.2 (Int.lt_of_lt_of_le h4 h6)]
    rfl
  | infinity s => rw [hr] at h; exact h
  | nan => rw [hr] at h; cases h

/-- The counts of a list of indexes. -/
def cntI (bs : List Int) : Int → Nat := cntB (bs.map fun b => (b, 1))
theorem cntI_cons (b : Int) (bs : List Int) : cntI (b :: bs) = addAt (cntI bs) b 1 := rfl
theorem cntI_snoc (bs : List Int) (b : Int) : cntI (bs ++ [b]) = addAt (cntI bs) b 1 := by
  unfold cntI; rw [List.map_append]; exact cntB_snoc _ (b, 1)
theorem cntI_perm {a b : List Int} (h : a.Perm b) : cntI a = cntI b := by
  induction h with
  | nil => rfl
  | cons x _ ih => rw [cntI_cons, cntI_cons, ih]
  | swap x y l => rw [cntI_cons, cntI_cons, cntI_cons, cntI_cons, addAt_comm]
  | trans _ _ h1 h2 => rw [h1, h2]
def InI (bs : List Int) : Prop := ∀ b ∈ bs, -10000 ≤ b ∧ b ≤ 10000
theorem InI.inR {bs : List Int} (h : InI bs) : InR (bs.map fun b => (b, 1)) := by
  intro p hp
  obtain ⟨b, hb, rfl⟩ := List.mem_map.1 hp
  exact h b hb
theorem cntI_none {bs : List Int} {x : Int} (h : x ∉ bs) : cntI bs x = 0 :=
  cntB_none (fun p hp e => by obtain ⟨b, hb, rfl⟩ := List.mem_map.1 hp; exact h (e ▸ hb))
theorem cntI_mem {bs : List Int} {x : Int} (h : x ∈ bs) : 0 < cntI bs x := by
  induction bs with
  | nil => cases h
  | cons b t ih =>
    rw [cntI_cons]; unfold addAt
    split
    · omega
    · rcases List.mem_cons.1 h with h | h
      · rename_i hn; exact absurd h hn
      · exact ih h
theorem cum_cntI {bs : List Int} (h : InI bs) (x : Int) : cum (cntI bs) x = (bs.filter fun b => decide (b < x)).length := by
  induction bs with
  | nil => exact cum_none _ _ (fun _ _ => rfl)
  | cons b t ih =>
    rw [cntI_cons, cum_addAt _ _ _ _ (h b List.mem_cons_self).1, ih (fun c hc => h c (List.mem_cons_of_mem _ hc))]
    by_cases c : b < x
    · rw [if_pos c, List.filter_cons_of_pos (by simp; omega)]; rfl
    · rw [if_neg c, List.filter_cons_of_neg (by simp; omega)]; rfl
theorem cum_cntI_ge {bs : List Int} (h : InI bs) (x : Int) (k : Nat) (hk : k ≤ bs.length) (hl : ∀ j, (hj : j < bs.length) → j < k → bs[j] < x) : k ≤ cum (cntI bs) x := by
  have e : (bs.take k).filter (fun b => decide (b < x)) = bs.take k := List.filter_eq_self.2 (fun b hb => by
    obtain ⟨j, hj, rfl⟩ := List.getElem_of_mem hb
    rw [List.length_take] at hj
    rw [List.getElem_take]
    have := hl j (by omega) (by omega)
    simpa using this)
  rw [cum_cntI h, ← List.take_append_drop k bs, List.filter_append, List.length_append, e, List.length_take]
  omega
theorem cum_cntI_le {bs : List Int} (h : InI bs) (x : Int) (k : Nat) (hk : k ≤ bs.length) (hl : ∀ j, (hj : j < bs.length) → k ≤ j → x ≤ bs[j]) : cum (cntI bs) x ≤ k := by
  have e : (bs.drop k).filter (fun b => decide (b < x)) = [] := List.filter_eq_nil_iff.2 (fun b hb => by
    obtain ⟨j, hj, rfl⟩ := List.getElem_of_mem hb
    rw [List.length_drop] at hj
    rw [List.getElem_drop]
    have := hl (k + j) (by omega) (by omega)
    simpa using this)
  rw [cum_cntI h, ← List.take_append_drop k bs, List.filter_append, List.length_append, e]
  have := List.length_filter_le (fun b => decide (b < x)) (bs.take k)
  rw [List.length_take] at this
  simp only [List.length_nil]; omega

theorem sumF_plus (f g : Int → Nat) (a : Int) (k : Nat) : sumF (fun i => f i + g i) a k = sumF f a k + sumF g a k := by
  induction k with
  | zero => rfl
  | succ k ih => rw [sumF, sumF, sumF, ih]; omega
theorem cum_plus (f g : Int → Nat) (x : Int) : cum (fun i => f i + g i) x = cum f x + cum g x := sumF_plus _ _ _ _
theorem cum_step {f : Int → Nat} (hz : ∀ i, i < -10000 → f i = 0) (x : Int) : cum f (x + 1) = cum f x + f x := by
  by_cases h : -10000 ≤ x
  · exact cum_succ f x h
  · rw [cum_none f x (fun i hi => hz i (by omega)), cum_none f (x + 1) (fun i hi => hz i (by omega)), hz x (by omega)]

/-- What is in pages, and what is in the list, together. -/
def both (G : Int → Nat) (bs : List Int) : Int → Nat := fun i => G i + cntI bs i

/-- The walk over pages and list for a rank: all below x, and bp of the list, are done. -/
structure Cur (G : Int → Nat) (bs : List Int) (r : Nat) (x : Int) (bp : Nat) : Prop where
  le : bp ≤ bs.length
  lt : ∀ j, (hj : j < bs.length) → j < bp → bs[j] < x
  gap : ∀ j, (hj : j < bs.length) → bp ≤ j → ∀ i, bs[j] < i → i < x → G i = 0
  no : fgt2 (nf (cum G x + bp)) r = false

section
variable {G : Int → Nat} {bs : List Int} {r : Nat} {x : Int} {bp : Nat}
theorem Cur.take (h : Cur G bs r x bp) (hj : bp < bs.length) (hx : bs[bp] < x) (hno : fgt2 (nf (cum G x + (bp + 1))) r = false) : Cur G bs r x (bp + 1) where
  le := hj
  lt := fun j hj2 hjb => by
    by_cases e : j = bp
    · subst e; exact hx
    · exact h.lt j hj2 (by omega)
  gap := fun j hj2 hjb => h.gap j hj2 (by omega)
  no := hno
theorem Cur.found (h : Cur G bs r x bp) (hI : InI bs) (hs : bs.Pairwise (· ≤ ·)) (hG : ∀ i, i < -10000 ∨ 10000 < i → G i = 0) (hT : tot2 G + bs.length < 9007199254740992) (hj : bp < bs.length) (hxle : bs[bp] < x)
   (hyes : fgt2 (nf (cum G x + (bp + 1))) r = true) : KeyIs (both G bs) r bs[bp] := by
  have hle : ∀ i j, (hi : i < bs.length) → (hj : j < bs.length) → i ≤ j → bs[i] ≤ bs[j] := fun i j hi hj hij => by
    rcases Nat.lt_or_eq_of_le hij with h | h
    · exact List.pairwise_iff_getElem.1 hs i j hi hj h
    · subst h; exact Int.le_refl _
  have hcG : ∀ y, cum G y ≤ tot2 G := fun y => by
    by_cases c : y ≤ 10001
    · exact cum_le_tot G y c
    · rw [tot2_def, cum_same G 10001 y (by omega) (fun i h1 _ => hG i (.inr (by omega)))]; omega
  refine ⟨?_, fun y hy => ?_⟩
  · have e : cum G (bs[bp] + 1) = cum G x := (cum_same G (bs[bp] + 1) x (by omega) (fun i h1 h2 => h.gap bp hj (Nat.le_refl _) i (by omega) h2)).symm
    unfold both
    rw [cum_plus, e]
    have h1 := cum_cntI_ge hI (bs[bp] + 1) (bp + 1) hj (fun j hj2 hjb => by have := hle j bp hj2 hj (by omega); omega)
    refine fgt2_mono (Nat.add_le_add_left h1 _) ?_ hyes
    have := hcG x
    rw [cum_cntI hI]
    have := List.length_filter_le (fun b => decide (b < bs[bp] + 1)) bs
    omega
  · unfold both
    rw [cum_plus]
    have h1 := cum_cntI_le hI (y + 1) bp h.le (fun j hj2 hjb => by have := hle bp j hj hj2 hjb; omega)
    have h2 := cum_mono G (y + 1) x (by omega)
    cases hc : fgt2 (nf (cum G (y + 1) + cum (cntI bs) (y + 1))) r
    · rfl
    · have := fgt2_mono (show cum G (y + 1) + cum (cntI bs) (y + 1) ≤ cum G x + bp from by omega) (by have := hcG x; have := h.le; omega) hc
      rw [h.no] at this; cases this
theorem Cur.at (h : Cur G bs r x bp) (hI : InI bs) (hG : ∀ i, i < -10000 ∨ 10000 < i → G i = 0) (hT : tot2 G + bs.length < 9007199254740992) (hrest : ∀ j, (hj : j < bs.length) → bp ≤ j → x ≤ bs[j])
   (hyes : fgt2 (nf (cum G (x + 1) + bp)) r = true) : KeyIs (both G bs) r x := by
  have hcG : ∀ y, cum G y ≤ tot2 G := fun y => by
    by_cases c : y ≤ 10001
    · exact cum_le_tot G y c
    · rw [tot2_def, cum_same G 10001 y (by omega) (fun i h1 _ => hG i (.inr (by omega)))]; omega
  refine ⟨?_, fun y hy => ?_⟩
  · unfold both
    rw [cum_plus]
    have h1 := cum_cntI_ge hI (x + 1) bp h.le (fun j hj2 hjb => by have := h.lt j hj2 hjb; omega)
    refine fgt2_mono (Nat.add_le_add_left h1 _) ?_ hyes
    have := hcG (x + 1)
    rw [cum_cntI hI]
    have := List.length_filter_le (fun b => decide (b < x + 1)) bs
    omega
  · unfold both
    rw [cum_plus]
    have h1 := cum_cntI_le hI (y + 1) bp h.le (fun j hj2 hjb => by have := hrest j hj2 hjb; omega)
    have h2 := cum_mono G (y + 1) x (by omega)
    cases hc : fgt2 (nf (cum G (y + 1) + cum (cntI bs) (y + 1))) r
    · rfl
    · have := fgt2_mono (show cum G (y + 1) + cum (cntI bs) (y + 1) ≤ cum G x + bp from by omega) (by have := hcG x; have := h.le; omega) hc
      rw [h.no] at this; cases this
theorem Cur.next (h : Cur G bs r x bp) (hrest : ∀ j, (hj : j < bs.length) → bp ≤ j → x ≤ bs[j]) (hno : fgt2 (nf (cum G (x + 1) + bp)) r = false) : Cur G bs r (x + 1) bp where
  le := h.le
  lt := fun j hj hjb => by have := h.lt j hj hjb; omega
  gap := fun j hj hjb i h1 h2 => by have := hrest j hj hjb; omega
  no := hno
theorem Cur.skip (h : Cur G bs r x bp) (y : Int) (hy : x ≤ y) (hz : ∀ i, x ≤ i → i < y → G i = 0) : Cur G bs r y bp where
  le := h.le
  lt := fun j hj hjb => by have := h.lt j hj hjb; omega
  gap := fun j hj hjb i h1 h2 => by
    by_cases c : i < x
    · exact h.gap j hj hjb i h1 c
    · exact hz i (by omega) h2
  no := by rw [cum_same G x y hy hz]; exact h.no
end

/-- The bins below y. -/
def below (F : Int → Nat) (y : Int) : Bins := nz F (-10000) (y + 10000).toNat
theorem below_same {F : Int → Nat} {y z : Int} (hy : -10000 ≤ y) (hyz : y ≤ z) (hz : ∀ i, y ≤ i → i < z → F i = 0) : below F z = below F y := by
  obtain ⟨k, rfl⟩ : ∃ k : Nat, z = y + (k : Int) := ⟨(z - y).toNat, by omega⟩
  induction k with
  | zero => rw [show y + ((0 : Nat) : Int) = y from by omega]
  | succ k ih =>
    rw [← ih (by omega) (fun i h1 h2 => hz i h1 (by omega))]
    unfold below
    rw [show (y + ((k + 1 : Nat) : Int) + 10000).toNat = (y + (k : Int) + 10000).toNat + 1 from by omega, nz, if_neg (by rw [hz _ (by omega) (by omega)]; omega), List.append_nil]
theorem below_one {F : Int → Nat} {y e : Int} (hy : -10000 ≤ y) (hye : y ≤ e) (hz : ∀ i, y ≤ i → i < e → F i = 0) (he : 0 < F e) : below F (e + 1) = below F y ++ [(e, F e)] := by
  rw [← below_same hy hye hz]
  unfold below
  rw [show (e + 1 + 10000).toNat = (e + 10000).toNat + 1 from by omega, nz]
  rw [show -10000 + ((e + 10000).toNat : Int) = e from by omega, if_pos he]
theorem cntI_run {bs : List Int} (h : InI bs) (e : Int) (s m : Nat) (hsm : s ≤ m) (hm : m ≤ bs.length) (h1 : ∀ j, (hj : j < bs.length) → j < s → bs[j] < e) (h2 : ∀ j, (hj : j < bs.length) → s ≤ j → j < m → bs[j] = e) (h3 : ∀ j, (hj : j < bs.length) → m ≤ j → e < bs[j]) : cntI bs e = m - s := by
  have a1 := cum_cntI_ge h e s (by omega) h1
  have a2 := cum_cntI_le h e s (by omega) (fun j hj hjs => by
    by_cases c : j < m
    · have := h2 j hj hjs c; omega
    · have := h3 j hj (by omega); omega)
  have b1 := cum_cntI_ge h (e + 1) m hm (fun j hj hjm => by
    by_cases c : j < s
    · have := h1 j hj c; omega
    · have := h2 j hj (by omega) hjm; omega)
  have b2 := cum_cntI_le h (e + 1) m hm (fun j hj hjm => by have := h3 j hj hjm; omega)
  have c := cum_step (f := cntI bs) (fun i hi => cntI_none (fun hmem => by have := h i hmem; omega)) e
  omega

/-- The walk over pages and list for the bins: those below y are told, all of the list below y is done, and nothing is in pages from y to x. -/
structure Bc (G : Int → Nat) (bs : List Int) (x y : Int) (bp : Nat) : Prop where
  le : bp ≤ bs.length
  lo : ∀ j, (hj : j < bs.length) → j < bp → bs[j] < y
  hi : ∀ j, (hj : j < bs.length) → bp ≤ j → y ≤ bs[j]
  gap : ∀ i, y ≤ i → i < x → G i = 0
  yx : y ≤ x ∨ y = -10000
  y0 : -10000 ≤ y
theorem Bc.skip {G : Int → Nat} {bs : List Int} {x y z : Int} {bp : Nat} (h : Bc G bs x y bp) (hxz : x ≤ z) (hz : ∀ i, x ≤ i → i < z → G i = 0) : Bc G bs z y bp where
  le := h.le
  lo := h.lo
  hi := h.hi
  gap := fun i h1 h2 => by
    by_cases c : i < x
    · exact h.gap i h1 c
    · exact hz i (by omega) h2
  yx := by rcases h.yx with c | c
           · exact .inl (Int.le_trans c hxz)
           · exact .inr c
  y0 := h.y0
theorem Bc.run {G : Int → Nat} {bs : List Int} {x y : Int} {bp : Nat} (h : Bc G bs x y bp) (hI : InI bs) (m : Nat) (e : Int) (hm0 : bp ≤ m) (hm : m ≤ bs.length) (hye : y ≤ e) (hge : ∀ i, y ≤ i → i < e → G i = 0) (hpos : 0 < G e + (m - bp))
   (h2 : ∀ j, (hj : j < bs.length) → bp ≤ j → j < m → bs[j] = e) (h3 : ∀ j, (hj : j < bs.length) → m ≤ j → e < bs[j]) (z : Int) (hz1 : e + 1 ≤ z) (hz2 : ∀ i, e < i → i < z → G i = 0) :
    Bc G bs z (e + 1) m ∧ below (both G bs) (e + 1) = below (both G bs) y ++ [(e, G e + (m - bp))] := by
  have h1 : ∀ j, (hj : j < bs.length) → j < bp → bs[j] < e := fun j hj hjb => by have := h.lo j hj hjb; omega
  have hc := cntI_run hI e bp m hm0 hm h1 h2 h3
  refine ⟨⟨hm, fun j hj hjm => ?_, fun j hj hjm => ?_, fun i i1 i2 => hz2 i (by omega) i2, .inl hz1, by have := h.y0; omega⟩, ?_⟩
  · by_cases c : j < bp
    · have := h1 j hj c; omega
    · have := h2 j hj (by omega) hjm; omega
  · have := h3 j hj hjm; omega
  · have hb : both G bs e = G e + (m - bp) := by show G e + cntI bs e = _; rw [hc]
    rw [below_one h.y0 hye ?_ (by rw [hb]; exact hpos), hb]
    intro i i1 i2
    show G i + cntI bs i = 0
    rw [hge i i1 i2, cntI_none]
    intro hmem
    obtain ⟨j, hj, rfl⟩ := List.getElem_of_mem hmem
    by_cases c : j < bp
    · have := h.lo j hj c; omega
    · by_cases c2 : j < m
      · have := h2 j hj (by omega) c2; omega
      · have := h3 j hj (by omega); omega
end Go.Proofs.YtnmbjalojgccmaaGreat
end
