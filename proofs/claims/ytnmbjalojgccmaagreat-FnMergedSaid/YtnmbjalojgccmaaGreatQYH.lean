/-
  The store with pages, as one of its kind.
-/
import Derived.Test.YtnmbjalojgccmaaGreatQT
import Derived.Test.YtnmbjalojgccmaaGreatQYZ
import Derived.Test.YtnmbjalojgccmaaGreatQYG
section
namespace Go.Proofs.YtnmbjalojgccmaaGreat
open Go.RowKit

theorem mAddPn (p : Nat) (w : World) : (method 405 134 (.pointer (some ⟨p, 0, none⟩)) "AddWithCount").run Tryz.prog w = .ok (297, .pointer (some ⟨p, 0, none⟩)) w := by kernel_rfl
theorem mKeyPn (p : Nat) (w : World) : (method 405 134 (.pointer (some ⟨p, 0, none⟩)) "KeyAtRank").run Tryz.prog w = .ok (305, .pointer (some ⟨p, 0, none⟩)) w := by kernel_rfl

/-- A store with pages that bins were added to. -/
def StP (_most : Int) (xs : Bins) (S : Nat → Prop) (p : Nat) (w : World) : Prop :=
  ∃ tg G bs q mp n bufv pgs, Paged tg G bs q mp n p bufv pgs w ∧ both G bs = cntB xs ∧ InI bs ∧ bs.length ≤ tot xs ∧ (xs = [] → n = 0) ∧ ∀ k, S k ↔ PFoot q p bufv pgs k

theorem both_zero {G : Int → Nat} {bs : List Int} {xs : Bins} (h : both G bs = cntB xs) (hr : InR xs) : ∀ i, i < -10000 ∨ 10000 < i → G i = 0 := fun i hi => by
  have h1 : G i + cntI bs i = cntB xs i := congrFun h i
  rw [cntB_inR hr i hi] at h1; omega
theorem both_tot {G : Int → Nat} {bs : List Int} {xs : Bins} (h : both G bs = cntB xs) (hr : InR xs) (hI : InI bs) : tot2 G + bs.length = tot xs := by
  rw [← tot2_cnt hr, ← h]
  show _ = cum (fun i => G i + cntI bs i) 10001
  rw [cum_plus, cum_cntI hI, List.filter_eq_self.2]
  · rfl
  · intro b hb
    have := (hI b hb).2
    simp; omega
theorem Paged.fr {tg : Int} {G : Int → Nat} {bs : List Int} {q : Int → Option (Nat × Nat)} {mp : Int} {n p : Nat} {bufv pgs : Value} {w w' : World} {S : Nat → Prop} (h : Paged tg G bs q mp n p bufv pgs w) (hf : Fr S w w') (hn : ∀ k, PFoot q p bufv pgs k → ¬ S k) : Paged tg G bs q mp n p bufv pgs w' :=
  ⟨⟨h.core.fields.fr hf (hn p (.inl rfl)), hf.owns h.core.buf (fun k hk => hn k (.inr (.inl hk))), hf.owns h.core.row (fun k hk => hn k (.inr (.inr (.inl hk)))), fun x b cp hx => (h.core.page x b cp hx).fr hf (hn b (.inr (.inr (.inr ⟨x, cp, hx⟩)))), h.core.zero, h.core.inj⟩, h.inside, h.bd⟩

set_option maxRecDepth 100000 in
theorem emptyP_any (most : Int) (w : World) : Calls Tryz.prog 53 #[.int .i64 2, .int .i64 most] w fun e w' => ∃ p S, e = .returned (.iface 134 (.pointer (some ⟨p, 0, none⟩))) ∧ StP most [] S p w' ∧ (∀ k, S k → w.heap.size ≤ k) ∧ Fr (fun _ => False) w w' := by
  go_enter Tryz.func53, Tryz.ntmps53
  go_wp2_with (go_at_call 78; (with_reducible refine (newP_any _).mono ?_); rintro e w' ⟨p, bufv, rfl, h1, h2, h3⟩; have H1 := Lib.hid h1; have H2 := Lib.hid h2; have H3 := Lib.hid h3; clear h1 h2 h3)
  go_ret
  exact ⟨p, PFoot (fun _ => none) p bufv (.slice none 0 0), rfl, ⟨64, _, [], _, _, 0, bufv, _, H1.out, rfl, (fun b hb => by cases hb), Nat.le_refl _, (fun _ => rfl), fun k => Iff.rfl⟩, H2.out, H3.out⟩

def kindP : StoreKind 2 where
  T := 134
  fAdd := 297
  fKey := 305
  St := StP
  mAdd := mAddPn
  mKey := mKeyPn
  eAdd := enters_of Tryz.func297 (by kernel_rfl) rfl
  eKey := enters_of Tryz.func305 (by kernel_rfl) rfl
  new := fun most w _ => emptyP_any most w
  add := fun most xs S p i c w _ h hr _ ht hl b1 b2 hc => by
    obtain ⟨tg, G, bs, q, mp, n, bufv, pgs, h1, h2, h3, h4, h5, h6⟩ := h
    have hG : G i ≤ tot xs := by
      have e1 : G i + cntI bs i = cntB xs i := congrFun h2 i
      have := one_le_tot (cntB xs) i b1 b2
      rw [tot2_cnt hr] at this; omega
    have hF : ∀ x, both G bs x < 1000000000 := fun x => by
      rw [h2]
      by_cases c : -10000 ≤ x ∧ x ≤ 10000
      · have := one_le_tot (cntB xs) x c.1 c.2
        rw [tot2_cnt hr] at this; omega
      · rw [cntB_inR hr x (by omega)]; decide
    refine (addG_any G bs q mp n p bufv pgs i c w h1 hc (by omega) h3 hF (by omega) b1 b2).mono ?_
    rintro e w' ⟨tg', G', bs', q', mp', n', bufv', pgs', rfl, k1, k2, k3, k4, k5, k6⟩
    refine ⟨rfl, PFoot q' p bufv' pgs', ⟨tg', G', bs', q', mp', n', bufv', pgs', k1, by rw [k2, h2, cntB_snoc], k3, by rw [tot_snoc]; omega, ?_, fun k => Iff.rfl⟩, k5.mono (fun k _ hk => (h6 k).2 hk), fun k hk => ?_⟩
    · intro e; simp at e
    · rcases k6 k hk with h | h
      · exact .inl ((h6 k).2 h)
      · exact .inr h
  key := fun most xs S p r w _ h hr hp ht hl hr0 hr1 hr2 => by
    obtain ⟨tg, G, bs, q, mp, n, bufv, pgs, h1, h2, h3, h4, h5, h6⟩ := h
    have htt := both_tot h2 hr h3
    refine (keyP_any G bs q mp n p bufv pgs r w h1 h3 (both_zero h2 hr) (by omega) hr0 hr1 (by rw [htt]; exact hr2)).mono ?_
    rintro e w' ⟨bs', K, rfl, hk, hpm, hP, hf⟩
    refine ⟨⟨K, rfl, by rw [cnt_kept0 (by decide) (by decide), ← h2]; exact hk⟩, S, ⟨tg, G, bs', q, mp, n, bufv, pgs, hP, ?_, fun b hb => h3 b (hpm.mem_iff.1 hb), by rw [hpm.length_eq]; exact h4, h5, h6⟩, hf.mono (fun k _ hk => (h6 k).2 (.inr (.inl hk))), fun k hk => .inl hk⟩
    rw [← h2]
    show (fun i => G i + cntI bs' i) = fun i => G i + cntI bs i
    rw [cntI_perm hpm]
  fr := fun most xs S p S2 w w' h hf hn => by
    obtain ⟨tg, G, bs, q, mp, n, bufv, pgs, h1, h2, h3, h4, h5, h6⟩ := h
    exact ⟨tg, G, bs, q, mp, n, bufv, pgs, h1.fr hf (fun k hk => hn k ((h6 k).2 hk)), h2, h3, h4, h5, h6⟩
  lt := fun most xs S p w h k hk => by
    obtain ⟨tg, G, bs, q, mp, n, bufv, pgs, h1, h2, h3, h4, h5, h6⟩ := h
    rcases (h6 k).1 hk with e | e | e | ⟨x, cp, e⟩
    · rw [e]; exact h1.core.fields.lt
    · exact (h1.core.buf.lt k e).2
    · exact (h1.core.row.lt k e).2
    · exact (h1.core.page x k cp e).lt
end Go.Proofs.YtnmbjalojgccmaaGreat
end
