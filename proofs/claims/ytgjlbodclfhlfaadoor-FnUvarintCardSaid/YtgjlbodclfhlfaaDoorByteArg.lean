/-
  A slice of bytes that came in as an argument: what it reads as.
-/
import Derived.Test.YtgjlbodclfhlfaaDoorExact
import Derived.Test.YtgjlbodclfhlfaaDoorProg
import Derived.ProofKit
namespace Go.Proofs.YtgjlbodclfhlfaaDoor
open Go.ChangeShapes Go.WideShapes Go.ChangeAt Go.RowKit

theorem Tryd.cellsU8 : Tryd.prog.cellsOf 5 = 1 := by kernel_rfl

theorem open_lies {H : Type} {enc : TypeId × Value → H} {W : World} {base : Nat} {v1 : Value} {d1 : DataW H} {p1 : List MemPlace} (hval : Value.okWide Tryd.prog W .any base 23 v1) (h1 : DataW.Trod enc Tryd.prog W 0 (fun _ => true) true 23 v1 d1 p1) :
    ∃ ao c ys, v1 = .slice ao ys.length c ∧ Lies W ao ys ∧ ∀ x ∈ ys, x < 256 := by
  obtain ⟨a1, len, cap, rfl⟩ := okWide_slice Tryd.underlying23 hval
  obtain ⟨fuel, hf⟩ := h1
  rcases open_ints Tryd.underlying23 Tryd.underlying5 Tryd.cellsU8 hf with ⟨hcs, _⟩ | ⟨a, len', cap', zs, hcs, _, hl, hm, hz, _, hcell, hwz⟩
  · simp [Value.cells] at hcs
    obtain ⟨rfl, rfl, rfl⟩ := hcs
    exact ⟨none, 0, [], rfl, .inl rfl, fun _ h => by cases h⟩
  · simp [Value.cells] at hcs
    obtain ⟨rfl, rfl, rfl⟩ := hcs
    simp only [if_true] at hz
    have hlen : ((zs.take len).map Int.toNat).length = len := by simp; omega
    have hr : ∀ n ∈ zs, 0 ≤ n ∧ n < 256 := fun n hn => by
      have h := hwz n hn
      simp [Lit.wf, IntKind.min, IntKind.max, IntKind.signed, IntKind.bits] at h
      omega
    refine ⟨some a, cap, (zs.take len).map Int.toNat, by rw [hlen], ?_, ?_⟩
    · by_cases h0 : len = 0
      · left; subst h0; rfl
      · right
        obtain ⟨b, off, spot⟩ := a
        have hspot : spot = none := by simpa [Addr.add] using World.cell?_spot (hcell 0 (by omega))
        subst hspot
        refine ⟨b, off, rfl, fun i hi => ?_⟩
        rw [hlen] at hi
        have hc := hcell i (by omega)
        have hadd : (⟨b, off, none⟩ : Addr).add i = ⟨b, off + i, none⟩ := by unfold Addr.add; split <;> simp_all
        rw [hadd] at hc
        rw [hc]
        have hiz : i < zs.length := by omega
        have hn := hr zs[i] (List.getElem_mem hiz)
        simp [List.getD, List.getElem?_eq_getElem hiz]
        omega
    · intro x hx
      obtain ⟨n, hn, rfl⟩ := List.mem_map.1 hx
      have := hr n (List.mem_of_mem_take hn)
      omega
end Go.Proofs.YtgjlbodclfhlfaaDoor
