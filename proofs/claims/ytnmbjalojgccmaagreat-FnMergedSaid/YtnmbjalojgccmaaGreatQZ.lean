/-
  append of n noughts to a slice of bytes of the call's own ('append(b, make([]byte, n)...)').
-/
import Derived.Test.YtnmbjalojgccmaaGreatQA
import Derived.Test.YtnmbjalojgccmaaGreatQD
section
namespace Go.Proofs.YtnmbjalojgccmaaGreat
open Go.RowKit

section
variable {P : Program} (w : World)
theorem zeroCells_u8 (n : Nat) : Builtin.zeroCells #[Value.int .u8 0] n = (cu8 (List.replicate n 0)).toArray := by
  apply Array.ext
  · simp [Builtin.zeroCells, cu8]
  · intro i h1 h2
    simp [Builtin.zeroCells, cu8, Nat.mod_one]

theorem run_append_zeros_room (t tI ty e : TypeId) (i : TypeInfo) (ht : P.underlying t = some (.slice e)) (hI : P.underlying tI = some (.int .i64)) (hi : P.info? e = some i) (hz : i.zero = some (.int .u8 0)) (hs : i.size = 1) (hb : i.bytes = 1)
    (g sLen sCap n : Nat) (hn0 : 0 < n) (hn : n < 1000000) (cur : Array Value) (hg : w.heap[g]? = some (.cells cur e (0, 0))) (hroom : sLen + n ≤ sCap) (hfit : sLen + n ≤ cur.size) :
    (Builtin.append_ #[t, tI] ty #[.slice (some ⟨g, 0, none⟩) sLen sCap, .int .i64 n]).run P w =
      .ok (.slice (some ⟨g, 0, none⟩) (sLen + n) sCap) (w.setRow g (cur.toList.take sLen ++ cu8 (List.replicate n 0) ++ cur.toList.drop (sLen + n)).toArray) := by
  have hst := run_storeCells_at P g sLen e (cu8 (List.replicate n 0)) 0 cur w hg (by simp [cu8]; omega) (by intro u hu; simp [cu8] at hu; rw [hu.2]; rfl)
  have hl : (cu8 (List.replicate n 0)).length = n := by simp [cu8]
  simp only [Nat.add_zero, hl] at hst
  have hw : IntKind.i64.wrap (n : Int) = n := by rw [IntKind.wrap_i64]; omega
  have h1 : ¬ ((n : Int) < 0) := by omega
  have h2 : ¬ (281474976710656 < (n : Int)) := by omega
  have h3 : ¬ n = 0 := by omega
  simp [Builtin.append_, run_underlying ht, run_underlying hI, sizeOf, typeInfo, zeroValue, hi, hz, hs, hb, asInt, asIntOf, hw, h1, h2, h3, hroom, Value.cells, zeroCells_u8, Addr.add_lit, hst]

theorem run_append_zeros_grow (t tI ty e : TypeId) (i : TypeInfo) (ht : P.underlying t = some (.slice e)) (hI : P.underlying tI = some (.int .i64)) (hi : P.info? e = some i) (hz : i.zero = some (.int .u8 0)) (hs : i.size = 1) (hb : i.bytes = 1)
    (ao : Option Addr) (sLen sCap n : Nat) (olds : List Value) (hlo : olds.length = sLen) (holds : (Builtin.firstCells 1 sLen (.slice ao sLen sCap)).run P w.drew = .ok olds.toArray w.drew) (hn0 : 0 < n) (hn : n < 1000000) (hsl : sLen < 1000000000000)
    (hg : sCap < sLen + n) :
    (Builtin.append_ #[t, tI] ty #[.slice ao sLen sCap, .int .i64 n]).run P w =
      .ok (.slice (some ⟨w.heap.size, 0, none⟩) (sLen + n) (grownCap w (sLen + n) sCap e))
        (w.drew.alloc (.cells (olds.toArray ++ (cu8 (List.replicate n 0)).toArray ++ Builtin.zeroCells #[Value.int .u8 0] (grownCap w (sLen + n) sCap e - (sLen + n))) e)) := by
  have hn' : ¬ (sLen + n ≤ sCap) := by omega
  have hw : IntKind.i64.wrap (n : Int) = n := by rw [IntKind.wrap_i64]; omega
  have h1 : ¬ ((n : Int) < 0) := by omega
  have h2 : ¬ (281474976710656 < (n : Int)) := by omega
  have h3 : ¬ n = 0 := by omega
  have h63' : ¬ (9223372036854775807 < ((sLen : Int) + (n : Int))) := by omega
  have h48' : ¬ (281474976710656 < Builtin.nextslicecap (sLen + n) sCap) := by
    have := growslice_fits (need := sLen + n) (old := sCap) (bytes := 1) (by omega) (by omega)
    omega
  have hz2 := zeroCells_u8 n
  simp [Builtin.append_, run_underlying ht, run_underlying hI, sizeOf, typeInfo, zeroValue, hi, hz, hs, hb, asInt, asIntOf, hw, h1, h2, h3, hn', h63', h48', Value.cells, hz2, Question.forced, holds, newRow, grownCap]
  congr 2
  apply Array.ext'
  simp [List.append_assoc]

/-- What append(b, make([]byte, n)...) gives of a slice of the call's own. -/
theorem run_append_zeros (t tI ty e : TypeId) (i : TypeInfo) (ht : P.underlying t = some (.slice e)) (hI : P.underlying tI = some (.int .i64)) (hi : P.info? e = some i) (hz : i.zero = some (.int .u8 0)) (hs : i.size = 1) (hb : i.bytes = 1)
    (v : Value) (xs : List Nat) (n : Nat) (hown : w.ownsRow 0 e 1 v xs.length (cu8 xs)) (hn0 : 0 < n) (hn : n < 1000000) (hsl : xs.length < 1000000000000) :
    ∃ v' w', (Builtin.append_ #[t, tI] ty #[v, .int .i64 n]).run P w = .ok v' w' ∧ w'.ownsRow 0 e 1 v' (xs ++ List.replicate n 0).length (cu8 (xs ++ List.replicate n 0)) ∧ w.grownBy w' v.ownBlock ∧
      (v'.ownBlock = v.ownBlock ∨ v'.ownBlock = some w.heap.size) := by
  have hlen : (cu8 (xs ++ List.replicate n 0)).length = (xs.length + n) * 1 := by simp [cu8]
  have hcu : cu8 (xs ++ List.replicate n 0) = cu8 xs ++ cu8 (List.replicate n 0) := cu8_append _ _
  have hll : (xs ++ List.replicate n 0).length = xs.length + n := by simp
  rw [hll]
  have grown : ∀ (old : Nat), old < xs.length + n → ∀ (row : Option Nat),
      (w.drew.alloc (.cells ((cu8 xs).toArray ++ (cu8 (List.replicate n 0)).toArray ++ Builtin.zeroCells #[Value.int .u8 0] (grownCap w (xs.length + n) old e - (xs.length + n))) e)).ownsRow 0 e 1
        (.slice (some ⟨w.heap.size, 0, none⟩) (xs.length + n) (grownCap w (xs.length + n) old e)) (xs.length + n) (cu8 (xs ++ List.replicate n 0)) ∧
      w.grownBy (w.drew.alloc (.cells ((cu8 xs).toArray ++ (cu8 (List.replicate n 0)).toArray ++ Builtin.zeroCells #[Value.int .u8 0] (grownCap w (xs.length + n) old e - (xs.length + n))) e)) row := by
    intro old ho row
    have hge := grownCap_ge w (xs.length + n) old e
    have hcm : grownCap w (xs.length + n) old e ≤ maxLen := grownCap_le_maxLen w (xs.length + n) old e (by unfold maxLen; omega)
    refine ⟨⟨hlen, .inr ⟨w.heap.size, _, _, rfl, Nat.zero_le _, heap_alloc_new w.drew _, hge, hcm, ?_, ?_⟩⟩, ⟨rfl, rfl, rfl, by simp, fun k hk _ => Below.heap_alloc w.drew _ k hk⟩⟩
    · simp only [Array.size_append, List.size_toArray, size_zeroCells]
      simp [cu8]; omega
    · simp only [Array.toList_append, List.append_assoc]
      rw [← List.append_assoc, ← hcu, ← hlen]
      exact List.take_left
  rcases hown.2 with ⟨rfl, h0⟩ | ⟨g, cap, cur, rfl, hbg, hg, hnc, hcm, hcs, htake⟩
  · have hx : xs = [] := List.eq_nil_of_length_eq_zero h0
    subst hx
    have hr := run_append_zeros_grow (P := P) w t tI ty e i ht hI hi hz hs hb none 0 0 n [] rfl (by simp [Builtin.firstCells]) hn0 hn (by omega) (by omega)
    have hgr := grown 0 (by simp; omega) (Value.ownBlock (.slice none 0 0))
    exact ⟨_, _, hr, hgr.1, hgr.2, .inr rfl⟩
  · by_cases hroom : xs.length + n ≤ cap
    · have hr := run_append_zeros_room (P := P) w t tI ty e i ht hI hi hz hs hb g xs.length cap n hn0 hn cur hg hroom (by omega)
      refine ⟨_, _, hr, ⟨hlen, .inr ⟨g, cap, _, rfl, hbg, setRow_heap w g cur _ e _ hg, hroom, hcm, ?_, ?_⟩⟩, ⟨rfl, rfl, rfl, by simp, fun k _ hk => setRow_other w g k _ (fun e => hk (by simp [Value.ownBlock, e]))⟩, .inl rfl⟩
      · simp only [List.size_toArray, List.length_append, List.length_take, List.length_drop, Array.length_toList]
        simp [cu8]; omega
      · have ht2 : cur.toList.take xs.length = cu8 xs := by simpa using htake
        rw [ht2, ← hcu, ← hlen]
        exact List.take_left
    · have holds : ∀ j u, (cu8 xs)[j]? = some u → w.cell? ((⟨g, 0, none⟩ : Addr).add j) = some u := hown.cells (g := g) rfl
      have hfo := run_firstCells_some (P := P) w.drew 1 xs.length ⟨g, 0, none⟩ xs.length cap (cu8 xs) (by simp [cu8]) (by simpa using holds)
      have hr := run_append_zeros_grow (P := P) w t tI ty e i ht hI hi hz hs hb (some ⟨g, 0, none⟩) xs.length cap n (cu8 xs) (by simp [cu8]) hfo hn0 hn (by omega) (by omega)
      have hgr := grown cap (by omega) (Value.ownBlock (.slice (some ⟨g, 0, none⟩) xs.length cap))
      exact ⟨_, _, hr, hgr.1, hgr.2, .inr rfl⟩
end
end Go.Proofs.YtnmbjalojgccmaaGreat
end
/-
  append of n noughts to a row of counts ('append(bins, make([]float64, n)...)').
-/
section
namespace Go.Proofs.YtnmbjalojgccmaaGreat
open Go.RowKit

section
variable {P : Program} (w : World)
theorem zeroCells_one (z : Value) (n : Nat) : Builtin.zeroCells #[z] n = (List.replicate n z).toArray := by
  apply Array.ext
  · simp [Builtin.zeroCells]
  · intro i h1 h2
    simp [Builtin.zeroCells, Nat.mod_one]

theorem run_append_z_room (t tI ty e : TypeId) (i : TypeInfo) (z : Value) (ht : P.underlying t = some (.slice e)) (hI : P.underlying tI = some (.int .i64)) (hi : P.info? e = some i) (hz : i.zero = some z) (hs : i.size = 1) (hb : i.bytes ≤ 16) (hzc : z.cells = #[z]) (hz1 : z.oneCell' = true)
    (g sLen sCap n : Nat) (hn0 : 0 < n) (hn : n < 10000000) (cur : Array Value) (hg : w.heap[g]? = some (.cells cur e (0, 0))) (hroom : sLen + n ≤ sCap) (hfit : sLen + n ≤ cur.size) :
    (Builtin.append_ #[t, tI] ty #[.slice (some ⟨g, 0, none⟩) sLen sCap, .int .i64 n]).run P w =
      .ok (.slice (some ⟨g, 0, none⟩) (sLen + n) sCap) (w.setRow g (cur.toList.take sLen ++ List.replicate n z ++ cur.toList.drop (sLen + n)).toArray) := by
  have hst := run_storeCells_at P g sLen e (List.replicate n z) 0 cur w hg (by simp; omega) (by intro u hu; rw [List.eq_of_mem_replicate hu]; exact hz1)
  simp only [Nat.add_zero, List.length_replicate] at hst
  have hw : IntKind.i64.wrap (n : Int) = n := by rw [IntKind.wrap_i64]; omega
  have h1 : ¬ ((n : Int) < 0) := by omega
  have h2 : ¬ (281474976710656 < (n : Int) * (i.bytes : Int)) := by
    have : (n : Int) * (i.bytes : Int) ≤ 10000000 * 16 := Int.mul_le_mul (by omega) (by omega) (by omega) (by omega)
    omega
  have h3 : ¬ n = 0 := by omega
  simp [Builtin.append_, run_underlying ht, run_underlying hI, sizeOf, typeInfo, zeroValue, hi, hz, hs, asInt, asIntOf, hw, h1, h2, h3, hroom, hzc, zeroCells_one, Addr.add_lit, hst]

theorem run_append_z_grow (t tI ty e : TypeId) (i : TypeInfo) (z : Value) (ht : P.underlying t = some (.slice e)) (hI : P.underlying tI = some (.int .i64)) (hi : P.info? e = some i) (hz : i.zero = some z) (hs : i.size = 1) (hb : i.bytes ≤ 16) (hzc : z.cells = #[z])
    (ao : Option Addr) (sLen sCap n : Nat) (olds : List Value) (hlo : olds.length = sLen) (holds : (Builtin.firstCells 1 sLen (.slice ao sLen sCap)).run P w.drew = .ok olds.toArray w.drew) (hn0 : 0 < n) (hn : n < 10000000) (hsl : sLen < 10000000)
    (hg : sCap < sLen + n) :
    (Builtin.append_ #[t, tI] ty #[.slice ao sLen sCap, .int .i64 n]).run P w =
      .ok (.slice (some ⟨w.heap.size, 0, none⟩) (sLen + n) (grownCap w (sLen + n) sCap e))
        (w.drew.alloc (.cells (olds.toArray ++ (List.replicate n z).toArray ++ Builtin.zeroCells #[z] (grownCap w (sLen + n) sCap e - (sLen + n))) e)) := by
  have hn' : ¬ (sLen + n ≤ sCap) := by omega
  have hw : IntKind.i64.wrap (n : Int) = n := by rw [IntKind.wrap_i64]; omega
  have h1 : ¬ ((n : Int) < 0) := by omega
  have h2 : ¬ (281474976710656 < (n : Int) * (i.bytes : Int)) := by
    have : (n : Int) * (i.bytes : Int) ≤ 10000000 * 16 := Int.mul_le_mul (by omega) (by omega) (by omega) (by omega)
    omega
  have h3 : ¬ n = 0 := by omega
  have h63' : ¬ (9223372036854775807 < ((sLen : Int) + (n : Int))) := by omega
  have h48' : ¬ (281474976710656 < Builtin.nextslicecap (sLen + n) sCap * i.bytes) := by
    have := growslice_fits (need := sLen + n) (old := sCap) (bytes := i.bytes) (by omega) (by
      have : (sLen + n) * i.bytes ≤ 20000000 * 16 := Nat.mul_le_mul (by omega) hb
      omega)
    omega
  have hz2 := zeroCells_one z n
  simp [Builtin.append_, run_underlying ht, run_underlying hI, sizeOf, typeInfo, zeroValue, hi, hz, hs, asInt, asIntOf, hw, h1, h2, h3, hn', h63', h48', hzc, hz2, Question.forced, holds, newRow, grownCap]
end

theorem replicate_nf (n : Nat) : List.replicate n (Value.float .f64 0) = row (fun _ => 0) n := by
  unfold row
  apply List.ext_getElem?
  intro i
  by_cases h : i < n
  · rw [List.getElem?_replicate, if_pos h, List.getElem?_map, List.getElem?_range h, Option.map_some, nf_zero]
  · rw [List.getElem?_replicate, if_neg h, List.getElem?_map, List.getElem?_eq_none (by simp; omega)]; rfl

theorem row_append (a : Int → Nat) (L n : Nat) : row a L ++ row (fun _ => 0) n = row (fun j => if j < (L : Int) then a j else 0) (L + n) := by
  apply List.ext_getElem?
  intro i
  by_cases h1 : i < L
  · rw [List.getElem?_append_left (by rw [row_length]; exact h1), row_get _ _ _ h1, row_get _ _ _ (by omega), if_pos (by omega)]
  · rw [List.getElem?_append_right (by rw [row_length]; omega), row_length]
    by_cases h2 : i < L + n
    · rw [row_get _ _ _ (by omega), row_get _ _ _ h2, if_neg (by omega)]
    · rw [List.getElem?_eq_none (by rw [row_length]; omega), List.getElem?_eq_none (by rw [row_length]; omega)]

/-- A slice of counts that is nil, or owns its row. -/
def Counts (w : World) (v : Value) (L : Nat) (a : Int → Nat) : Prop := (v = .slice none 0 0 ∧ L = 0) ∨ ∃ g cp, v = .slice (some ⟨g, 0, none⟩) L cp ∧ Row w g L cp a

/-- append(b, make([]float64, n)...): the row behind it. -/
def GrewRow (w : World) (v : Value) (L n : Nat) (a : Int → Nat) (v' : Value) (w' : World) : Prop :=
  ∃ g' cp', v' = .slice (some ⟨g', 0, none⟩) (L + n) cp' ∧ Row w' g' (L + n) cp' (fun j => if j < (L : Int) then a j else 0) ∧ w.grownBy w' v.ownBlock ∧ (v.ownBlock = some g' ∨ g' = w.heap.size)

theorem run_append_fz {P : Program} (w : World) (t tI ty : TypeId) (ht : P.underlying t = some (.slice 30)) (hI : P.underlying tI = some (.int .i64))
    (hinfo : (P.info? 30).map (fun i => (i.zero, i.size, i.bytes)) = some (some (.float .f64 0), 1, 8))
    (v : Value) (L n : Nat) (a : Int → Nat) (h : Counts w v L a) (hn0 : 0 < n) (hn : n < 10000000) (hL : L < 10000000) :
    ∃ v' w', (Builtin.append_ #[t, tI] ty #[v, .int .i64 n]).run P w = .ok v' w' ∧ GrewRow w v L n a v' w' := by
  obtain ⟨i0, hi, hz0, hz1, hz2⟩ := info_parts hinfo
  have grown : ∀ (old : Nat), old < L + n → ∀ (row' : Option Nat) (b : Int → Nat),
      Row (w.drew.alloc (.cells ((row b L).toArray ++ (List.replicate n (Value.float .f64 0)).toArray ++ Builtin.zeroCells #[.float .f64 0] (grownCap w (L + n) old 30 - (L + n))) 30)) w.heap.size (L + n) (grownCap w (L + n) old 30) (fun j => if j < (L : Int) then b j else 0) ∧
      w.grownBy (w.drew.alloc (.cells ((row b L).toArray ++ (List.replicate n (Value.float .f64 0)).toArray ++ Builtin.zeroCells #[.float .f64 0] (grownCap w (L + n) old 30 - (L + n))) 30)) row' := by
    intro old ho row' b
    have hge := grownCap_ge w (L + n) old 30
    have hcm : grownCap w (L + n) old 30 ≤ maxLen := grownCap_le_maxLen w (L + n) old 30 (by unfold maxLen; omega)
    refine ⟨⟨by rw [row_length]; omega, .inr ⟨w.heap.size, _, _, rfl, Nat.zero_le _, heap_alloc_new w.drew _, hge, hcm, ?_, ?_⟩⟩, ⟨rfl, rfl, rfl, by simp, fun k hk _ => Below.heap_alloc w.drew _ k hk⟩⟩
    · simp only [Array.size_append, List.size_toArray, size_zeroCells, row_length, List.length_replicate]
      simp; omega
    · simp only [Array.toList_append, List.append_assoc]
      rw [← List.append_assoc, replicate_nf, row_append, Nat.mul_one]
      have : L + n = (row (fun j => if j < (L : Int) then b j else 0) (L + n)).length := by rw [row_length]
      conv => lhs; rw [this]
      rw [row_length]
      have h2 : (row (fun j => if j < (L : Int) then b j else 0) (L + n)).length = L + n := row_length _ _
      conv => lhs; arg 1; rw [← h2]
      exact List.take_left
  rcases h with ⟨rfl, rfl⟩ | ⟨g, cp, rfl, hr⟩
  · have hr := run_append_z_grow (P := P) w t tI ty 30 i0 (.float .f64 0) ht hI hi hz0 hz1 (by omega) rfl none 0 0 n [] rfl (by simp [Builtin.firstCells]) hn0 hn (by omega) (by omega)
    have hgr := grown 0 (by omega) (Value.ownBlock (.slice none 0 0)) a
    exact ⟨_, _, hr, w.heap.size, _, rfl, hgr.1, hgr.2, .inr rfl⟩
  · obtain ⟨cur, hg, h1, h2, h3, h4⟩ := hr.block
    by_cases hroom : L + n ≤ cp
    · have hrun := run_append_z_room (P := P) w t tI ty 30 i0 (.float .f64 0) ht hI hi hz0 hz1 (by omega) rfl rfl g L cp n hn0 hn cur hg hroom (by omega)
      refine ⟨_, _, hrun, g, cp, rfl, ⟨by rw [row_length]; omega, .inr ⟨g, cp, _, rfl, Nat.zero_le _, setRow_heap w g cur _ _ _ hg, hroom, h2, ?_, ?_⟩⟩, ⟨rfl, rfl, rfl, by simp [World.setRow], fun k _ hk => setRow_other w g k _ (fun e => hk (by simp [Value.ownBlock, e]))⟩, .inl rfl⟩
      · simp only [List.size_toArray, List.length_append, List.length_take, List.length_drop, Array.length_toList, List.length_replicate]
        omega
      · rw [h4, replicate_nf, row_append, Nat.mul_one]
        have h5 : (row (fun j => if j < (L : Int) then a j else 0) (L + n)).length = L + n := row_length _ _
        conv => lhs; arg 1; rw [← h5]
        exact List.take_left
    · have hlo : (row a L).length = L := row_length _ _
      have hfo := run_firstCells_some (P := P) w.drew 1 L ⟨g, 0, none⟩ L cp (row a L) (by rw [row_length]; omega) (World.ownsRow.cells hr (g := g) rfl)
      have hrun := run_append_z_grow (P := P) w t tI ty 30 i0 (.float .f64 0) ht hI hi hz0 hz1 (by omega) rfl (some ⟨g, 0, none⟩) L cp n (row a L) hlo hfo hn0 hn hL (by omega)
      have hgr := grown cp (by omega) (Value.ownBlock (.slice (some ⟨g, 0, none⟩) L cp)) a
      exact ⟨_, _, hrun, w.heap.size, _, rfl, hgr.1, hgr.2, .inr rfl⟩

theorem wpList_append_fz {P : Program} (w : World) {ops : Array Oper} {rest : List Oper} {o : Oper} {a : Act} {Q : Exit → Act → World → Prop} (hgd : o.guard = none) (s x : Operand) (t tI : TypeId)
    (ho : o.op = .call { callee := .builtin .append, args := #[s, x], argTypes := #[t, tI] }) (ht : P.underlying t = some (.slice 30)) (hI : P.underlying tI = some (.int .i64))
    (hinfo : (P.info? 30).map (fun i => (i.zero, i.size, i.bytes)) = some (some (.float .f64 0), 1, 8))
    (v : Value) (L n : Nat) (f : Int → Nat) (hs : a.eval s = v) (hx : a.eval x = .int .i64 n) (h : Counts w v L f) (hn0 : 0 < n) (hn : n < 10000000) (hL : L < 10000000)
    (hk : ∀ v' w', GrewRow w v L n f v' w' → wpList P ops Q rest (a.put o.dst v') w') : wpList P ops Q (o :: rest) a w := by
  obtain ⟨v', w', hr, h2⟩ := run_append_fz (P := P) w t tI o.type ht hI hinfo v L n f h hn0 hn hL
  refine wpList_plain hgd fun K hK => ?_
  unfold Oper.wp execOp
  simp only [ho, resolve, invoke, builtin, Sem.run_bind, Sem.run_pure, Result.andThen_ok, List.map_toArray, List.map_cons, List.map_nil, hs, hx, hr]
  exact hK _ _ (hk v' w' h2)
theorem wp_append_fz {P : Program} (w : World) {o : Oper} {a : Act} {K : Act → World → Prop} {Q : Exit → Act → World → Prop} (s x : Operand) (t tI : TypeId)
    (ho : o.op = .call { callee := .builtin .append, args := #[s, x], argTypes := #[t, tI] }) (ht : P.underlying t = some (.slice 30)) (hI : P.underlying tI = some (.int .i64))
    (hinfo : (P.info? 30).map (fun i => (i.zero, i.size, i.bytes)) = some (some (.float .f64 0), 1, 8))
    (v : Value) (L n : Nat) (f : Int → Nat) (hs : a.eval s = v) (hx : a.eval x = .int .i64 n) (h : Counts w v L f) (hn0 : 0 < n) (hn : n < 10000000) (hL : L < 10000000)
    (hk : ∀ v' w', GrewRow w v L n f v' w' → K (a.put o.dst v') w') : o.wp P a w K Q := by
  obtain ⟨v', w', hr, h2⟩ := run_append_fz (P := P) w t tI o.type ht hI hinfo v L n f h hn0 hn hL
  unfold Oper.wp execOp
  simp only [ho, resolve, invoke, builtin, Sem.run_bind, Sem.run_pure, Result.andThen_ok, List.map_toArray, List.map_cons, List.map_nil, hs, hx, hr]
  exact hk v' w' h2
theorem Tryz.infoF64 : (Tryz.prog.info? 30).map (fun i => (i.zero, i.size, i.bytes)) = some (some (.float .f64 0), 1, 8) := by kernel_rfl
end Go.Proofs.YtnmbjalojgccmaaGreat
end
