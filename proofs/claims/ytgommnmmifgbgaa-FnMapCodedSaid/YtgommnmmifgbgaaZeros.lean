/-
  append of n noughts to a slice of bytes of the call's own ('append(b, make([]byte, n)...)').
-/
import Derived.Test.YtgommnmmifgbgaaFrame
namespace Go.Proofs.Ytgommnmmifgbgaa
open Go.RowKit

section
variable {P : Program} (w : World)
theorem zeroCells_u8 (n : Nat) : Builtin.zeroCells #[Value.int .u8 0] n = (cu8 (List.replicate n 0)).toArray := by
  apply Array.ext
  · simp [Builtin.zeroCells, cu8]
  · intro i h1 h2
    simp [Builtin.zeroCells, cu8, Nat.mod_one]

theorem run_append_zeros_room (t tI ty e : TypeId) (i : TypeInfo) (ht : P.underlying t = some (.slice e)) (hI : P.underlying tI = some (.int .i64)) (hi : P.info? e = some i) (hz : i.zero = some (.int .u8 0)) (hs : i.size = 1) (hb : i.bytes = 1)
    (g sLen sCap n : Nat) (hn0 : 0 < n) (hn : n < 1000000) (cur : Array Value) (hg : w.heap[g]? = some (.cells cur e (0, 0))) (hroom : sLen + n ≤ sCap) (hfit : sLen + n ≤ cur.size) :
    (Builtin.append_ #[t, tI] ty #[.slice (some ⟨g, 0, none⟩) sLen sCap, .int .i64 n]).run P w =
      .ok (.slice (some ⟨g, 0, none⟩) (sLen + n) sCap) (w.setRow g (cur.toList.take sLen ++ cu8 (List.replicate n 0) ++ cur.toList.drop (sLen + n)).toArray) := by
  have hst := run_storeCells_at P g sLen e (cu8 (List.replicate n 0)) 0 cur w hg (by simp [cu8]; omega) (by intro u hu; simp [cu8] at hu; rw [hu.2]; rfl)
  have hl : (cu8 (List.replicate n 0)).length = n := by simp [cu8]
  simp only [Nat.add_zero, hl] at hst
  have hw : IntKind.i64.wrap (n : Int) = n := by rw [IntKind.wrap_i64]; omega
  have h1 : ¬ ((n : Int) < 0) := by omega
  have h2 : ¬ (281474976710656 < (n : Int)) := by omega
  have h3 : ¬ n = 0 := by omega
  simp [Builtin.append_, run_underlying ht, run_underlying hI, sizeOf, typeInfo, zeroValue, hi, hz, hs, hb, asInt, asIntOf, hw, h1, h2, h3, hroom, Value.cells, zeroCells_u8, Addr.add_lit, hst]

theorem run_append_zeros_grow (t tI ty e : TypeId) (i : TypeInfo) (ht : P.underlying t = some (.slice e)) (hI : P.underlying tI = some (.int .i64)) (hi : P.info? e = some i) (hz : i.zero = some (.int .u8 0)) (hs : i.size = 1) (hb : i.bytes = 1)
    (ao : Option Addr) (sLen sCap n : Nat) (olds : List Value) (hlo : olds.length = sLen) (holds : (Builtin.firstCells 1 sLen (.slice ao sLen sCap)).run P w.drew = .ok olds.toArray w.drew) (hn0 : 0 < n) (hn : n < 1000000) (hsl : sLen < 1000000000000)
    (hg : sCap < sLen + n) :
    (Builtin.append_ #[t, tI] ty #[.slice ao sLen sCap, .int .i64 n]).run P w =
      .ok (.slice (some ⟨w.heap.size, 0, none⟩) (sLen + n) (grownCap w (sLen + n) sCap e))
        (w.drew.alloc (.cells (olds.toArray ++ (cu8 (List.replicate n 0)).toArray ++ Builtin.zeroCells #[Value.int .u8 0] (grownCap w (sLen + n) sCap e - (sLen + n))) e)) := by
  have hn' : ¬ (sLen + n ≤ sCap) := by omega
  have hw : IntKind.i64.wrap (n : Int) = n := by rw [IntKind.wrap_i64]; omega
  have h1 : ¬ ((n : Int) < 0) := by omega
  have h2 : ¬ (281474976710656 < (n : Int)) := by omega
  have h3 : ¬ n = 0 := by omega
  have h63' : ¬ (9223372036854775807 < ((sLen : Int) + (n : Int))) := by omega
  have h48' : ¬ (281474976710656 < Builtin.nextslicecap (sLen + n) sCap) := by
    have := growslice_fits (need := sLen + n) (old := sCap) (bytes := 1) (by omega) (by omega)
    omega
  have hz2 := zeroCells_u8 n
  simp [Builtin.append_, run_underlying ht, run_underlying hI, sizeOf, typeInfo, zeroValue, hi, hz, hs, hb, asInt, asIntOf, hw, h1, h2, h3, hn', h63', h48', Value.cells, hz2, Question.forced, holds, newRow, grownCap]
  congr 2
  apply Array.ext'
  simp [List.append_assoc]

/-- What append(b, make([]byte, n)...) gives of a slice of the call's own. -/
theorem run_append_zeros (t tI ty e : TypeId) (i : TypeInfo) (ht : P.underlying t = some (.slice e)) (hI : P.underlying tI = some (.int .i64)) (hi : P.info? e = some i) (hz : i.zero = some (.int .u8 0)) (hs : i.size = 1) (hb : i.bytes = 1)
    (v : Value) (xs : List Nat) (n : Nat) (hown : w.ownsRow 0 e 1 v xs.length (cu8 xs)) (hn0 : 0 < n) (hn : n < 1000000) (hsl : xs.length < 1000000000000) :
    ∃ v' w', (Builtin.append_ #[t, tI] ty #[v, .int .i64 n]).run P w = .ok v' w' ∧ w'.ownsRow 0 e 1 v' (xs ++ List.replicate n 0).length (cu8 (xs ++ List.replicate n 0)) ∧ w.grownBy w' v.ownBlock ∧
      (v'.ownBlock = v.ownBlock ∨ v'.ownBlock = some w.heap.size) := by
  have hlen : (cu8 (xs ++ List.replicate n 0)).length = (xs.length + n) * 1 := by simp [cu8]
  have hcu : cu8 (xs ++ List.replicate n 0) = cu8 xs ++ cu8 (List.replicate n 0) := cu8_append _ _
  have hll : (xs ++ List.replicate n 0).length = xs.length + n := by simp
  rw [hll]
  have grown : ∀ (old : Nat), old < xs.length + n → ∀ (row : Option Nat),
      (w.drew.alloc (.cells ((cu8 xs).toArray ++ (cu8 (List.replicate n 0)).toArray ++ Builtin.zeroCells #[Value.int .u8 0] (grownCap w (xs.length + n) old e - (xs.length + n))) e)).ownsRow 0 e 1
        (.slice (some ⟨w.heap.size, 0, none⟩) (xs.length + n) (grownCap w (xs.length + n) old e)) (xs.length + n) (cu8 (xs ++ List.replicate n 0)) ∧
      w.grownBy (w.drew.alloc (.cells ((cu8 xs).toArray ++ (cu8 (List.replicate n 0)).toArray ++ Builtin.zeroCells #[Value.int .u8 0] (grownCap w (xs.length + n) old e - (xs.length + n))) e)) row := by
    intro old ho row
    have hge := grownCap_ge w (xs.length + n) old e
    have hcm : grownCap w (xs.length + n) old e ≤ maxLen := grownCap_le_maxLen w (xs.length + n) old e (by unfold maxLen; omega)
    refine ⟨⟨hlen, .inr ⟨w.heap.size, _, _, rfl, Nat.zero_le _, heap_alloc_new w.drew _, hge, hcm, ?_, ?_⟩⟩, ⟨rfl, rfl, rfl, by simp, fun k hk _ => Below.heap_alloc w.drew _ k hk⟩⟩
    · simp only [Array.size_append, List.size_toArray, size_zeroCells]
      simp [cu8]; omega
    · simp only [Array.toList_append, List.append_assoc]
      rw [← List.append_assoc, ← hcu, ← hlen]
      exact List.take_left
  rcases hown.2 with ⟨rfl, h0⟩ | ⟨g, cap, cur, rfl, hbg, hg, hnc, hcm, hcs, htake⟩
  · have hx : xs = [] := List.eq_nil_of_length_eq_zero h0
    subst hx
    have hr := run_append_zeros_grow (P := P) w t tI ty e i ht hI hi hz hs hb none 0 0 n [] rfl (by simp [Builtin.firstCells]) hn0 hn (by omega) (by omega)
    have hgr := grown 0 (by simp; omega) (Value.ownBlock (.slice none 0 0))
    exact ⟨_, _, hr, hgr.1, hgr.2, .inr rfl⟩
  · by_cases hroom : xs.length + n ≤ cap
    · have hr := run_append_zeros_room (P := P) w t tI ty e i ht hI hi hz hs hb g xs.length cap n hn0 hn cur hg hroom (by omega)
      refine ⟨_, _, hr, ⟨hlen, .inr ⟨g, cap, _, rfl, hbg, setRow_heap w g cur _ e _ hg, hroom, hcm, ?_, ?_⟩⟩, ⟨rfl, rfl, rfl, by simp, fun k _ hk => setRow_other w g k _ (fun e => hk (by simp [Value.ownBlock, e]))⟩, .inl rfl⟩
      · simp only [List.size_toArray, List.length_append, List.length_take, List.length_drop, Array.length_toList]
        simp [cu8]; omega
      · have ht2 : cur.toList.take xs.length = cu8 xs := by simpa using htake
        rw [ht2, ← hcu, ← hlen]
        exact List.take_left
    · have holds : ∀ j u, (cu8 xs)[j]? = some u → w.cell? ((⟨g, 0, none⟩ : Addr).add j) = some u := hown.cells (g := g) rfl
      have hfo := run_firstCells_some (P := P) w.drew 1 xs.length ⟨g, 0, none⟩ xs.length cap (cu8 xs) (by simp [cu8]) (by simpa using holds)
      have hr := run_append_zeros_grow (P := P) w t tI ty e i ht hI hi hz hs hb (some ⟨g, 0, none⟩) xs.length cap n (cu8 xs) (by simp [cu8]) hfo hn0 hn (by omega) (by omega)
      have hgr := grown cap (by omega) (Value.ownBlock (.slice (some ⟨g, 0, none⟩) xs.length cap))
      exact ⟨_, _, hr, hgr.1, hgr.2, .inr rfl⟩
end
end Go.Proofs.Ytgommnmmifgbgaa
