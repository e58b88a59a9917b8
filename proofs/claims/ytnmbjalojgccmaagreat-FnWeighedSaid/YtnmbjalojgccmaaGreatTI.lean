/-
  The row's last step where of the world behind the call 'Below' alone is known.
-/
import Derived.Below
import Derived.ChangeSame
import Derived.Test.YtnmbjalojgccmaaGreatRA
import Derived.Deep.SlicePairs
import Derived.ProofKit
section
namespace Go.Proofs.YtnmbjalojgccmaaGreat
open Go.RowKit Go.WideShapes Go.ChangeShapes

section
variable {H : Type} {enc : TypeId × Value → H} {P : Program}
theorem post_of_below {f : Func} {s : ChangeSpec} {apart fresh handsOn again : Bool} {W W' : World} {args : Array Value} {v : Value} {ds gs : List (DataW H)} {before pa pv : List MemPlace}
    (hW : DataW.Whole enc P f.params.toList s.vars apart W args.toList ds gs before)
    (hres : ∀ (b : Nat) (sp : Nat → Bool) (hd : Bool), DataW.TrodAll enc P W' b sp hd f.resultTypes.toList (v.resultList f.resultTypes.size) (s.fn H (ds ++ gs)).results [])
    (hargs : ∀ sp : Nat → Bool, (∀ p ∈ before, sp p.block = true) → DataW.TrodAll enc P W' 0 sp true f.params.toList args.toList (s.fn H (ds ++ gs)).args pa)
    (hvars : ∀ sp : Nat → Bool, (∀ p ∈ before, sp p.block = true) → DataW.TrodVars enc P W' sp s.vars (s.fn H (ds ++ gs)).vars pv)
    (hps : before = pa ++ pv) (hb : Below W.heap.size W W')
    (hok : ∀ (j : Nat) (t : TypeId) (r : Value), f.resultTypes[j]? = some t → (v.resultList f.resultTypes.size)[j]? = some r → Value.okWide P W' .any 0 t r) :
    s.post enc P f apart fresh handsOn again W args v W' := by
  have hlt : ∀ p ∈ before, p.block < W.heap.size := fun p hp => hW.lt p hp
  have hold : ∀ p ∈ before, (fun b => decide (b < W.heap.size)) p.block = true := fun p hp => by simpa using hlt p hp
  refine ⟨ds, gs, before, [], pa, pv, hW, hres _ _ _, hargs _ hold, hvars _ hold, World.keptBut_mono (fun p hp => ⟨hp, ?_⟩) (hb.frame (· ∈ before)), fun _ => ?_⟩
  · rw [hps, List.mem_append] at hp
    exact Or.inr hp
  · obtain ⟨_, _, _, _, _, hz, hn⟩ := hW
    refine ⟨hok, _, _, ([] ++ pa) ++ pv, ⟨[] ++ pa, pv, trodAll_append (hargs _ (fun _ _ => rfl)) (hres _ _ _), hvars _ (fun _ _ => rfl), rfl, ?_, ?_⟩, ?_⟩
    · intro b off hp
      have hin : MemPlace.cell b off ∈ before := by rw [hps]; simpa using hp
      rw [hb.frozen (hlt _ hin)]
      exact hz b off hin
    · intro ha
      have := hn ha
      rw [hps] at this
      simpa using this
    · intro p hp _
      rw [hps]
      simpa using hp
end
end Go.Proofs.YtnmbjalojgccmaaGreat
end
/-
  A slice of bins and a slice of floats that come in: what lies there.
-/
section
namespace Go.Proofs.YtnmbjalojgccmaaGreat
open Go.RowKit Go.ChangeShapes Go.WideShapes

section
variable {H : Type} {enc : TypeId × Value → H} {P : Program} {w : World} {base : Nat} {spare : Nat → Bool} {held : Bool}
theorem trod_float {k : FloatKind} {t : TypeId} {fuel : Nat} {cs : List Value} {x : DataW H × List MemPlace} (ht : P.underlying t = some (.float k)) (h : DataW.trod enc P w base spare held fuel t cs = some x) : ∃ b, cs = [.float k b] ∧ (Lit.float k b).wf = true := by
  cases fuel with
  | zero => simp [DataW.trod] at h
  | succ n =>
    simp only [DataW.trod, ht] at h
    split at h <;> simp_all

theorem get_plain {g : Addr} {v : Value} (h : w.cell? (g.add 0) = some v) : ∃ b off, g = ⟨b, off, none⟩ := by
  obtain ⟨b, off, spot⟩ := g
  have : spot = none := by
    have h2 := World.cell?_spot h
    unfold Addr.add at h2
    split at h2 <;> simp_all
  exact ⟨b, off, by rw [this]⟩

theorem open_bins {t e : TypeId} {f0 f1 : Field} {ao : Option Addr} {len cap : Nat} {d : DataW H} {p : List MemPlace} (ht : P.underlying t = some (.slice e)) (he : P.underlying e = some (.struct #[f0, f1]))
    (ce : P.cellsOf e = 2) (o0 : f0.offset = 0) (o1 : f1.offset = 1) (c0 : P.cellsOf f0.type = 1) (c1 : P.cellsOf f1.type = 1) (k0 : P.underlying f0.type = some (.int .i64)) (k1 : P.underlying f1.type = some (.float .f64))
    (h : DataW.Trod enc P w base (fun _ => true) held t (.slice ao len cap) d p) :
    ∃ ps : List (Int × Nat), ps.length = len ∧ Lie2 w ao ps ∧ ∀ q ∈ ps, q.2 < 18446744073709551616 := by
  obtain ⟨n, hn⟩ := h
  rcases Deep.open_slice_pairs ht he ce o0 o1 c0 c1 hn with ⟨hcs, hx⟩ | ⟨a, len', cap', m, n', V0, V1, D0, D1, P0, P1, hcs, _, hl, _, hm, _, hc⟩
  · simp [Value.cells] at hcs
    exact ⟨[], by simp [hcs], .inl rfl, fun q hq => by cases hq⟩
  · simp [Value.cells] at hcs
    obtain ⟨rfl, rfl, rfl⟩ := hcs
    simp at hm
    subst hm
    have key : ∀ i, i < len → ∃ q : Int × Nat, V0 i = .int .i64 q.1 ∧ V1 i = .float .f64 q.2 ∧ q.2 < 18446744073709551616 := by
      intro i hi
      obtain ⟨_, _, h3, h4⟩ := hc i (by omega)
      obtain ⟨z, hz, _, _⟩ := DataW.trod_int k0 h3
      obtain ⟨b, hb, hw⟩ := trod_float k1 h4
      simp at hz hb
      exact ⟨(z, b), hz, hb, by simpa [Lit.wf] using hw⟩
    obtain ⟨q, hq⟩ := Deep.choose_lt key
    refine ⟨(List.range len).map q, by simp, ?_, ?_⟩
    · by_cases h0 : len = 0
      · exact .inl (by simp [h0])
      · right
        obtain ⟨b, off, rfl⟩ := get_plain (hc 0 (by omega)).1
        refine ⟨b, off, rfl, fun i hi => ?_⟩
        have hi' : i < len := by simpa using hi
        obtain ⟨h1, h2, _, _⟩ := hc i (by omega)
        rw [add_plain] at h1 h2
        rw [(hq i hi').1] at h1
        rw [(hq i hi').2.1] at h2
        simp only [List.getElem_map, List.getElem_range]
        exact ⟨h1, by rw [← h2]; rfl⟩
    · intro x hx
      obtain ⟨i, hi, rfl⟩ := List.mem_map.1 hx
      exact (hq i (List.mem_range.1 hi)).2.2

theorem open_floats {t e : TypeId} {ao : Option Addr} {len cap : Nat} {d : DataW H} {p : List MemPlace} (ht : P.underlying t = some (.slice e)) (he : P.underlying e = some (.float .f64))
    (ce : P.cellsOf e = 1) (h : DataW.Trod enc P w base (fun _ => true) held t (.slice ao len cap) d p) :
    ∃ rs : List Nat, rs.length = len ∧ LieF w ao rs ∧ ∀ q ∈ rs, q < 18446744073709551616 := by
  obtain ⟨n, hn⟩ := h
  rcases Deep.open_slice1 ht ce hn with ⟨hcs, hx⟩ | ⟨a, len', cap', m, n', V, D, Pl, hcs, _, hl, _, hm, _, hc⟩
  · simp [Value.cells] at hcs
    exact ⟨[], by simp [hcs], .inl rfl, fun q hq => by cases hq⟩
  · simp [Value.cells] at hcs
    obtain ⟨rfl, rfl, rfl⟩ := hcs
    simp at hm
    subst hm
    have key : ∀ i, i < len → ∃ q : Nat, V i = .float .f64 q ∧ q < 18446744073709551616 := by
      intro i hi
      obtain ⟨_, h4⟩ := hc i (by omega)
      obtain ⟨b, hb, hw⟩ := trod_float he h4
      simp at hb
      exact ⟨b, hb, by simpa [Lit.wf] using hw⟩
    obtain ⟨q, hq⟩ := Deep.choose_lt key
    refine ⟨(List.range len).map q, by simp, ?_, ?_⟩
    · by_cases h0 : len = 0
      · exact .inl (by simp [h0])
      · right
        obtain ⟨b, off, rfl⟩ := get_plain (hc 0 (by omega)).1
        refine ⟨b, off, rfl, fun i hi => ?_⟩
        have hi' : i < len := by simpa using hi
        obtain ⟨h1, _⟩ := hc i (by omega)
        rw [add_plain, (hq i hi').1] at h1
        simp only [List.getElem_map, List.getElem_range]
        exact h1
    · intro x hx
      obtain ⟨i, hi, rfl⟩ := List.mem_map.1 hx
      exact (hq i (List.mem_range.1 hi)).2
end
end Go.Proofs.YtnmbjalojgccmaaGreat
end
