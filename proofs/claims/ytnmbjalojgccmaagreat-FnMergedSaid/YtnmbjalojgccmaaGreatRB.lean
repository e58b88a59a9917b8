/-
  quietly: calls what it is handed; where that returns, the answer is true.
-/
import Derived.Test.YtnmbjalojgccmaaGreatProg
import Derived.Test.YtnmbjalojgccmaaGreatQA
import Derived.Defers
import Derived.Recover
import Derived.Deep.LoopGhost
import Derived.Deep.DeepMust
section
namespace Go.Proofs.YtnmbjalojgccmaaGreat
open Go.RowKit

theorem quiet_idle (p : Addr) (w : World) :
    CallsD Tryz.prog 60 #[.pointer (some p)] .returning w fun e u' w' => e = .returned (.tuple #[]) ∧ u' = .returning ∧ w' = w := by
  refine callsD_of_wpS Tryz.func60 rfl fun c₀ cs hu => ?_
  apply wpS_seq
  apply wpS_region
  simp [wpOpsS, go_sem, recoverD, hu, Tryz.ntmps60, Exit.thenS]
  refine wpS_cond (t := false) (by simp [Act.eval, Array.replicate]) ?_
  simp only [Bool.false_eq_true, if_false]
  refine wpS_of_wp (wp_skip ?_)
  cases c₀
  simp_all [bodyPostS, results, Tryz.results60]

/-- What the call of the closure leaves, and the answer laid in the named result's cell. -/
def Quieted (Q : World → Prop) (b : Nat) (w' : World) : Prop := ∃ w1, Q w1 ∧ w' = w1.setCell ⟨b, 0, none⟩ (.bool true)

set_option maxRecDepth 100000 in
theorem quietly_any (K : FuncId) (caps : Array Value) (w : World) (Q : World → Prop) (hK : ∀ w, (callFunc K caps).run Tryz.prog w = .ok (.enter K caps) w)
    (hf : Calls Tryz.prog K caps (w.alloc (.cells #[.bool false] 4)) fun e w1 => e = .returned (.tuple #[]) ∧ w1.heap[w.heap.size]? = some (.cells #[.bool false] 4 (0, 0)) ∧ Q w1) :
    Calls Tryz.prog 33 #[.func (.func K) #[] caps] w fun e w' => e = .returned (.bool true) ∧ Quieted Q w.heap.size w' := by
  have hmf : ∀ (fn : Fn) (first cap : Array Value) (w : World), (Instr.makeFunc fn first cap).run Tryz.prog w = .ok (.func fn first cap) w := fun _ _ _ _ => rfl
  go_enter_defers Tryz.func33, Tryz.ntmps33
  go_wp2_with fail
  refine hf.mono ?_
  rintro e w1 ⟨rfl, hc, hq⟩
  have hcc := cell_of_one hc
  have hff := free_of_one hc
  go_wp2
  refine leaves_cons (f := 60) (args := #[.pointer (some ⟨w.heap.size, 0, none⟩)]) (by simp) (by simp [go_sem]) ?_
  refine (quiet_idle ⟨w.heap.size, 0, none⟩ _).mono ?_
  rintro e u' w'' ⟨rfl, rfl, rfl⟩
  have hc2 := cell_of_one (one_setCell (u := .bool true) hc)
  simp only [Leaves, settle]
  refine ⟨.bool true, ?_, rfl, w1, hq, rfl⟩
  simp [results, Tryz.results33, go_sem, hc2]
end Go.Proofs.YtnmbjalojgccmaaGreat
end
/-
  coded: the bytes that what it is handed appends to an empty slice.
-/
section
namespace Go.Proofs.YtnmbjalojgccmaaGreat
open Go.RowKit

/-- A call of a function that has a Go body: it is entered. -/
theorem run_enter {P : Program} {f : FuncId} {fn : Func} {c : Code} (hf : P.funcs[f]? = some fn) (hname : (fn.name == "runtime.NumGoroutine") = false) (hb : fn.body = some c) (args : Array Value) (w : World) :
    (callFunc f args).run P w = .ok (.enter f args) w := by
  have h1 : fn.name ≠ "runtime.NumGoroutine" := by simpa using hname
  simp [callFunc, hf, h1, hb]

/-- A value that is a slice of bytes with a row of the call's own, from block B on. -/
def Bytes (B : Nat) (w' : World) (s : Value) (ys : List Nat) : Prop :=
  w'.ownsRow 0 5 1 s ys.length (cu8 ys) ∧ ∀ k, s.ownBlock = some k → B ≤ k

/-- What coded$1 leaves: in the variable 'out' (block b) the bytes. -/
def CodedIn (w w' : World) (b : Nat) (ys : List Nat) : Prop :=
  ∃ s, w'.heap[b]? = some (.cells #[s] 63 (0, 0)) ∧ Bytes w.heap.size w' s ys ∧ Fr (fun k => k = b) w w'

set_option maxRecDepth 100000 in
theorem coded1_any (pf po : Nat) (K : FuncId) (caps : Array Value) (ys : List Nat) (so : Value) (w : World)
    (hpf : w.heap[pf]? = some (.cells #[.func (.func K) #[] caps] 108 (0, 0))) (hpo : w.heap[po]? = some (.cells #[so] 63 (0, 0)))
    (hK : ∀ p w, (callFunc K (#[.pointer (some p)] ++ caps)).run Tryz.prog w = .ok (.enter K (#[.pointer (some p)] ++ caps)) w)
    (hf : ∀ w1 p r, Buf 63 5 w1 p r [] → Fr (fun _ => False) w w1 → w.heap.size ≤ p → Calls Tryz.prog K (#[.pointer (some ⟨p, 0, none⟩)] ++ caps) w1 fun e w' => e = .returned (.tuple #[]) ∧ GrewTo 63 5 w1 w' p r ys) :
    Calls Tryz.prog 81 #[.pointer (some ⟨pf, 0, none⟩), .pointer (some ⟨po, 0, none⟩)] w fun e w' => e = .returned (.tuple #[]) ∧ CodedIn w w' po ys := by
  have hc1 := cell_of_one hpf
  have hc2 := cell_of_one hpo
  have hl1 := lt_of_block hpf
  have hl2 := lt_of_block hpo
  have H := hf ((w.alloc (.cells #[] 5)).alloc (.cells #[.slice (some ⟨w.heap.size, 0, none⟩) 0 0] 63)) (w.heap.size + 1) (some w.heap.size)
    ⟨.slice (some ⟨w.heap.size, 0, none⟩) 0 0, by have := heap_alloc_new (w.alloc (.cells #[] 5)) (.cells #[.slice (some ⟨w.heap.size, 0, none⟩) 0 0] 63); simpa using this,
      (World.ownsRow_made w #[] 0 (Nat.zero_le _) (by decide) rfl).alloc _, rfl⟩ (((Fr.refl _ w).alloc _).alloc _) (by omega)
  clear hf
  go_enter Tryz.func81, Tryz.ntmps81
  go_wp2_with fail
  refine H.mono ?_
  clear H
  rintro e w1 ⟨rfl, r', ⟨s, hs, hown, hrr⟩, hfr, hr'⟩
  have hpo1 : w1.heap[po]? = some (.cells #[so] 63 (0, 0)) := hfr.heap (by rw [Below.heap_alloc _ _ _ (by simp; omega), Below.heap_alloc _ _ _ (by omega)]; exact hpo) (by simp; omega)
  have g : CodedIn w (w1.setCell ⟨po, 0, none⟩ s) po ys := by
    have hblk : ∀ k, s.ownBlock = some k → w.heap.size ≤ k := by
      intro k hk
      rw [hrr] at hk
      rcases hr' with h | ⟨j, h, hj⟩
      · rw [h] at hk; cases hk; exact Nat.le_refl _
      · rw [h] at hk; cases hk; simp at hj; omega
    refine ⟨s, one_setCell hpo1, ⟨ownsRow_setCell_other hown ?_ _, hblk⟩, ?_⟩
    · intro hk; have := hblk _ hk; simp at this; omega
    · have h0 : Fr (fun k => w.heap.size ≤ k) w w1 := (((Fr.refl _ w).alloc _).alloc _).trans hfr (fun _ _ h => h) (by intro i hi h; rcases h with h | h <;> first | omega | (simp at h; omega))
      exact ((h0.mono (U := fun k => k = po ∨ w.heap.size ≤ k) (fun _ _ h => .inr h)).setCell (p := ⟨po, 0, none⟩) (fun _ => .inl rfl) s).mono (by intro i hi h; rcases h with h | h <;> omega)
  obtain ⟨ao, n1, cp1, hv1⟩ := owns_slice hown
  rw [hv1] at g hs
  have hc3 := cell_of_one hs
  have hc4 := cell_of_one hpo1
  have hf4 := free_of_one hpo1
  have G := Lib.hid g
  clear g hs hown hrr hfr hr' hv1 hpo1 hpo hpf hc1 hc2
  go_wp2
  go_end0
  exact ⟨rfl, G.out⟩

/-- It hands back a slice of the call's own with the bytes ys. -/
def GivesBytes (ys : List Nat) (w : World) (e : Ending) (w' : World) : Prop :=
  ∃ ao n c, e = .returned (.slice ao n c) ∧ OwnB 5 w w' (.slice ao n c) ys

set_option maxRecDepth 100000 in
theorem coded_any (K : FuncId) (caps : Array Value) (ys : List Nat) (w : World)
    (hK : ∀ p w, (callFunc K (#[.pointer (some p)] ++ caps)).run Tryz.prog w = .ok (.enter K (#[.pointer (some p)] ++ caps)) w)
    (hf : ∀ w1 p r, Buf 63 5 w1 p r [] → Below w.heap.size w w1 → w.heap.size ≤ p → Calls Tryz.prog K (#[.pointer (some ⟨p, 0, none⟩)] ++ caps) w1 fun e w' => e = .returned (.tuple #[]) ∧ GrewTo 63 5 w1 w' p r ys) :
    Calls Tryz.prog 57 #[.func (.func K) #[] caps] w fun e w' => GivesBytes ys w e w' := by
  have hmf : ∀ (fn : Fn) (first cap : Array Value) (w : World), (Instr.makeFunc fn first cap).run Tryz.prog w = .ok (.func fn first cap) w := fun _ _ _ _ => rfl
  have e1 : ∀ o : Obj, (w.alloc o).heap.size = w.heap.size + 1 := fun o => by simp
  have hb0 : ∀ o1 o2 o3 : Obj, Below w.heap.size w (((w.alloc o1).alloc o2).alloc o3) := fun o1 o2 o3 => (((Below.refl _ w).alloc (Nat.le_refl _) _).alloc (by simp) _).alloc (by simp; omega) _
  have H := quietly_any 81 #[.pointer (some ⟨w.heap.size, 0, none⟩), .pointer (some ⟨w.heap.size + 1, 0, none⟩)]
    ((w.alloc (.cells #[.func (.func K) #[] caps] 108)).alloc (.cells #[.slice none 0 0] 63))
    (CodedIn (((w.alloc (.cells #[.func (.func K) #[] caps] 108)).alloc (.cells #[.slice none 0 0] 63)).alloc (.cells #[.bool false] 4)) · (w.heap.size + 1) ys)
    (fun w => run_enter Tryz.func81 (by kernel_rfl) rfl _ w)
    ((coded1_any w.heap.size (w.heap.size + 1) K caps ys (.slice none 0 0) _ ?h1 ?h2 hK ?h3).mono ?h4)
  case h1 => rw [Below.heap_alloc _ _ _ (by simp; omega), Below.heap_alloc _ _ _ (by simp)]; exact heap_alloc_new w _
  case h2 => rw [Below.heap_alloc _ _ _ (by simp)]; have := heap_alloc_new (w.alloc (.cells #[.func (.func K) #[] caps] 108)) (.cells #[.slice none 0 0] 63); simpa using this
  case h3 =>
    intro w1 p r hb hfr hp
    exact hf w1 p r hb ((hb0 _ _ _).trans (hfr.below (B := w.heap.size) (fun _ h => h.elim) (by simp; omega))) (by simp at hp; omega)
  case h4 =>
    rintro e w1 ⟨rfl, s, hs, hby, hfr⟩
    refine ⟨rfl, ?_, s, hs, hby, hfr⟩
    have := heap_alloc_new ((w.alloc (.cells #[.func (.func K) #[] caps] 108)).alloc (.cells #[.slice none 0 0] 63)) (.cells #[.bool false] 4)
    exact hfr.heap this (by simp)
  clear hf hK
  go_enter Tryz.func57, Tryz.ntmps57
  go_wp2_with fail
  refine H.mono ?_
  clear H
  rintro e w2 ⟨rfl, w1, ⟨s, hs, ⟨hown, hblk⟩, hfr⟩, rfl⟩
  have hz : w.heap.size + 3 ≤ w1.heap.size := by have := hfr.size; simp at this; omega
  have hs2 : (w1.setCell ⟨w.heap.size + 2, 0, none⟩ (.bool true)).heap[w.heap.size + 1]? = some (.cells #[s] 63 (0, 0)) := by
    rw [Below.heap_setCell _ _ _ _ (by simp)]; exact hs
  have hb1 : Below w.heap.size w w1 := (hb0 _ _ _).trans (hfr.below (B := w.heap.size) (fun _ h => by omega) (by simp; omega))
  have g : ∀ u, Bytes w.heap.size ((w1.setCell ⟨w.heap.size + 2, 0, none⟩ (.bool true)).setCell ⟨w.heap.size + 1, 0, none⟩ u) s ys ∧ Below w.heap.size w ((w1.setCell ⟨w.heap.size + 2, 0, none⟩ (.bool true)).setCell ⟨w.heap.size + 1, 0, none⟩ u) := by
    intro u
    refine ⟨⟨ownsRow_setCell_other (ownsRow_setCell_other hown ?_ _) ?_ _, ?_⟩, (hb1.setCell (by simp) _).setCell (by simp) _⟩
    · intro hk; have := hblk _ hk; simp at this; omega
    · intro hk; have := hblk _ hk; simp at this; omega
    · intro k hk; have := hblk _ hk; simp at this; omega
  obtain ⟨ao, n1, cp1, hv1⟩ := owns_slice hown
  rw [hv1] at g hs2
  have hc3 := cell_of_one hs2
  have hf3 := free_of_one hs2
  have hc4 := cell_of_one (one_setCell (u := .slice ao n1 cp1) hs2)
  have G := Lib.hid g
  clear g hs hown hfr hblk hv1 hs2 hb1 hb0
  have e2 : ∀ o1 o2 : Obj, ((w.alloc o1).alloc o2).heap.size = w.heap.size + 2 := fun o1 o2 => by simp
  go_wp2
  exact bodyPost_ret (v := .slice ao n1 cp1) (by simp [results, Tryz.results57, go_sem, hc4]) rfl ⟨ao, n1, cp1, rfl, G.out _⟩
end Go.Proofs.YtnmbjalojgccmaaGreat
end
/-
  EncodeUvarint64: the buffer grows by the number's bytes, seven bits at a time.
-/
section
namespace Go.Proofs.YtnmbjalojgccmaaGreat
open Go.RowKit

theorem Tryz.infoU8 : (Tryz.prog.info? 5).map (fun i => (i.zero, i.size, i.bytes)) = some (some (.int .u8 0), 1, 1) := by kernel_rfl

theorem Tryz.sizeU8 (w : World) : (sizeOf 5).run Tryz.prog w = .ok 1 w := by kernel_rfl

/-- The bytes of a number: at most k with seven bits, then one with what is left. -/
def encU : Nat → Nat → List Nat
  | 0, v => [v % 256]
  | k + 1, v => if v < 128 then [v] else (v % 128 + 128) :: encU k (v / 128)

theorem encU_len1 (k v : Nat) : 1 ≤ (encU k v).length ∧ (encU k v).length ≤ k + 1 := by
  induction k generalizing v with
  | zero => simp [encU]
  | succ k ih =>
    rw [encU]
    split
    · simp
    · have := ih (v / 128); simp; omega

theorem or128 (u : Nat) : bits .or .u8 ((u : Int) % 256) 128 = ((u % 128 + 128 : Nat) : Int) := by
  have h := u8_or_nat (u % 256) 128 (by omega) (by omega)
  have e : ((u % 256 : Nat) : Int) = (u : Int) % 256 := by omega
  rw [e] at h
  rw [show ((128 : Nat) : Int) = 128 from rfl] at h
  rw [h]
  have : u % 256 ||| 128 = u % 128 + 128 := by
    have hb : ∀ x : BitVec 8, x ||| 128#8 = (x &&& 127#8) + 128#8 := by decide
    have hx := congrArg BitVec.toNat (hb (BitVec.ofNat 8 u))
    simp only [BitVec.toNat_or, BitVec.toNat_add, BitVec.toNat_and, BitVec.toNat_ofNat] at hx
    rw [show (127 : Nat) % 2 ^ 8 = 127 from rfl, nat_mask7, show (2 : Nat) ^ 8 = 256 from rfl, show (128 : Nat) % 256 = 128 from rfl] at hx
    omega
  rw [this]

set_option maxRecDepth 100000 in
set_option maxHeartbeats 400000 in
theorem encU_any (p : Nat) (r : Option Nat) (v : Nat) (xs : List Nat) (w : World) (hv : v < 18446744073709551616)
   (hb : Buf 63 5 w p r xs) (hn : xs.length < 1000000000) :
    Calls Tryz.prog 59 #[.pointer (some ⟨p, 0, none⟩), .int .u64 v] w fun e w' => e = .returned (.tuple #[]) ∧ GrewTo 63 5 w w' p r (xs ++ encU 8 v) := by
  obtain ⟨i0, hi, hz0, hz1, hz2⟩ := info_parts Tryz.infoU8
  go_enter Tryz.func59, Tryz.ntmps59
  go_wp2
  go_loopw [1, 4] (fun u i wr => ∃ k u' : Nat, ∃ pre : List Nat, k ≤ 8 ∧ pre.length = k ∧ i = .int .i64 k ∧ u = .int .u64 u' ∧ u' < 18446744073709551616 ∧ encU 8 v = pre ++ encU (8 - k) u' ∧ GrewTo 63 5 w wr p r (xs ++ pre)) (fun _ i _ => 8 - (intOf i).toNat)
  case atStart => exact ⟨0, v, [], by omega, rfl, rfl, rfl, hv, rfl, by simpa using GrewTo.start hb⟩
  case round =>
    obtain ⟨k, u', pre, hk, hpl, rfl, rfl, hu, he, hgr⟩ := hrel
    obtain ⟨r', ⟨s, hcell, hown, hrr⟩, hfr, hr'⟩ := id hgr
    have hc := cell_of_one hcell
    have hf := free_of_one hcell
    clear hgr
    have HE := Lib.hid he; clear he
    have HC := Lib.hid hcell; clear hcell
    have HR := Lib.hid hrr; clear hrr
    have HF := Lib.hid hfr; clear hfr
    have HX := Lib.hid hr'; clear hr' hb
    have HU := Lib.hid hu; clear hu
    have hl : (xs ++ pre).length < 1000000010 := by simp; omega
    have HP := Lib.hid hpl; clear hpl
    by_cases h8 : k < 8
    · by_cases h128 : u' < 128
      · go_wp2_with (at_builtin; refine wpList_append_own2 _ rfl _ _ 63 rfl 5 i0 (.int .u8 0) 1 1 Tryz.underlying63 hi hz0 hz1 hz2 rfl (by decide) s (xs ++ pre).length (cu8 (xs ++ pre)) rfl (hown.alloc _) ⟨wr.heap.size, 0, none⟩ 1 1 [Value.int .u8 ((u' : Int))] rfl rfl ?c1 ?c2 ?c3 ?c4 ?_)
        case c1 => exact cell_one_new _ _ _
        case c2 => intro u hu; simp at hu; subst hu; rfl
        case c3 => unfold maxLen; omega
        case c4 => omega
        intro v' w1 hown' hgrow hblk
        have hown2 : w1.ownsRow 0 5 1 v' ((xs ++ pre).length + [u'].length) (cu8 (xs ++ pre) ++ cu8 [u']) := by
          simpa [cu8] using hown'
        have hc1 := buf_cell_behind (by decide) HC.out hown hgrow
        have g := grew_step (ys := [u']) (by decide) HC.out hown HR.out HF.out HX.out hown2 hgrow hblk
        obtain ⟨ao, n1, cp1, hv1⟩ := owns_slice hown'
        rw [hv1] at g
        rw [hv1]
        have HG := Lib.hid g
        clear hown' hown2 hgrow hblk g hv1
        have hcc := cell_of_one hc1
        have hff := free_of_one hc1
        clear hc1
        go_wp2
        go_end0
        refine ⟨rfl, ?_⟩
        have e : encU 8 v = pre ++ [u'] := by
          rw [HE.out]; congr 1
          obtain ⟨j, hj⟩ : ∃ j, 8 - k = j + 1 := ⟨7 - k, by omega⟩
          rw [hj, encU, if_pos h128]
        rw [e, ← List.append_assoc]
        exact HG.out
      · go_wp2_with (at_builtin; refine wpList_append_own2 _ rfl _ _ 63 rfl 5 i0 (.int .u8 0) 1 1 Tryz.underlying63 hi hz0 hz1 hz2 rfl (by decide) s (xs ++ pre).length (cu8 (xs ++ pre)) rfl (hown.alloc _) ⟨wr.heap.size, 0, none⟩ 1 1 [Value.int .u8 (bits .or .u8 ((u' : Int) % 256) 128)] rfl rfl ?c1 ?c2 ?c3 ?c4 ?_)
        case c1 => exact cell_one_new _ _ _
        case c2 => intro u hu; simp at hu; subst hu; rfl
        case c3 => unfold maxLen; omega
        case c4 => omega
        intro v' w1 hown' hgrow hblk
        have hown2 : w1.ownsRow 0 5 1 v' ((xs ++ pre).length + [u' % 128 + 128].length) (cu8 (xs ++ pre) ++ cu8 [u' % 128 + 128]) := by
          rw [or128] at hown'; simpa [cu8] using hown'
        have hc1 := buf_cell_behind (by decide) HC.out hown hgrow
        have g := grew_step (ys := [u' % 128 + 128]) (by decide) HC.out hown HR.out HF.out HX.out hown2 hgrow hblk
        obtain ⟨ao, n1, cp1, hv1⟩ := owns_slice hown'
        rw [hv1] at g
        rw [hv1]
        have HG := Lib.hid g
        clear hown' hown2 hgrow hblk g hv1
        have hcc := cell_of_one hc1
        have hff := free_of_one hc1
        clear hc1
        go_wp2
        go_roundw
        case rel =>
          refine ⟨k + 1, u' / 128, pre ++ [u' % 128 + 128], by omega, by have := HP.out; simp; omega, by go_num, ?_, by have := HU.out; omega, ?_, ?_⟩
          · go_num
          · rw [HE.out, List.append_assoc]; congr 1
            obtain ⟨j, hj⟩ : ∃ j, 8 - k = j + 1 := ⟨7 - k, by omega⟩
            rw [hj, encU, if_neg h128, show 8 - (k + 1) = j from by omega]; rfl
          · rw [← List.append_assoc]; exact HG.out
        case measure => simp [intOf]; omega
    · go_wp2_with (at_builtin; refine wpList_append_own2 _ rfl _ _ 63 rfl 5 i0 (.int .u8 0) 1 1 Tryz.underlying63 hi hz0 hz1 hz2 rfl (by decide) s (xs ++ pre).length (cu8 (xs ++ pre)) rfl (hown.alloc _) ⟨wr.heap.size, 0, none⟩ 1 1 [Value.int .u8 ((u' : Int) % 256)] rfl rfl ?c1 ?c2 ?c3 ?c4 ?_)
      case c1 => exact cell_one_new _ _ _
      case c2 => intro u hu; simp at hu; subst hu; rfl
      case c3 => unfold maxLen; omega
      case c4 => omega
      intro v' w1 hown' hgrow hblk
      have hown2 : w1.ownsRow 0 5 1 v' ((xs ++ pre).length + [u' % 256].length) (cu8 (xs ++ pre) ++ cu8 [u' % 256]) := by
        simpa [cu8] using hown'
      have hc1 := buf_cell_behind (by decide) HC.out hown hgrow
      have g := grew_step (ys := [u' % 256]) (by decide) HC.out hown HR.out HF.out HX.out hown2 hgrow hblk
      obtain ⟨ao, n1, cp1, hv1⟩ := owns_slice hown'
      rw [hv1] at g
      rw [hv1]
      have HG := Lib.hid g
      clear hown' hown2 hgrow hblk g hv1
      have hcc := cell_of_one hc1
      have hff := free_of_one hc1
      clear hc1
      go_wp2
      go_end0
      refine ⟨rfl, ?_⟩
      have e : encU 8 v = pre ++ [u' % 256] := by
        rw [HE.out]; congr 1
        rw [show 8 - k = 0 from by omega, encU]
      rw [e, ← List.append_assoc]
      exact HG.out
end Go.Proofs.YtnmbjalojgccmaaGreat
end
/-
  works: it is true.
-/
section
namespace Go.Proofs.YtnmbjalojgccmaaGreat
open Go.RowKit

set_option maxRecDepth 100000 in
theorem uvarint_closure (pn : Nat) (v : Nat) (p : Nat) (r : Option Nat) (w : World) (hv : v < 18446744073709551616) (hpn : w.cell? ⟨pn, 0, none⟩ = some (.int .u64 v)) (hb : Buf 63 5 w p r []) :
    Calls Tryz.prog 58 (#[.pointer (some ⟨p, 0, none⟩)] ++ #[.pointer (some ⟨pn, 0, none⟩)]) w fun e w' => e = .returned (.tuple #[]) ∧ GrewTo 63 5 w w' p r (encU 8 v) := by
  have H := encU_any p r v [] w hv hb (by simp)
  clear hb hv
  go_enter Tryz.func58, Tryz.ntmps58
  go_wp2_with fail
  refine H.mono ?_
  clear H
  rintro e w1 ⟨rfl, hg⟩
  have G := Lib.hid hg; clear hg
  go_wp2
  go_end0
  exact ⟨rfl, by simpa using G.out⟩

set_option maxRecDepth 100000 in
theorem implUvarint_any (v : Nat) (w : World) (hv : v < 18446744073709551616) :
    Calls Tryz.prog 29 #[.int .u64 v] w fun e w' => GivesBytes (encU 8 v) w e w' := by
  have hmf : ∀ (fn : Fn) (first cap : Array Value) (w : World), (Instr.makeFunc fn first cap).run Tryz.prog w = .ok (.func fn first cap) w := fun _ _ _ _ => rfl
  have H := coded_any 58 #[.pointer (some ⟨w.heap.size, 0, none⟩)] (encU 8 v) (w.alloc (.cells #[.int .u64 v] 65))
    (fun p w => run_enter Tryz.func58 (by kernel_rfl) rfl _ w)
    (fun w1 p r hb hbel _ => uvarint_closure w.heap.size v p r w1 hv ((hbel.cell (p := ⟨w.heap.size, 0, none⟩) (by simp)).trans (cell_of_one (heap_alloc_new w _))) hb)
  clear hv
  go_enter Tryz.func29, Tryz.ntmps29
  go_wp2_with fail
  refine H.mono ?_
  clear H
  rintro e w1 ⟨ao, n, c, rfl, ⟨hby, hbel⟩⟩
  have G : Hid (GivesBytes (encU 8 v) w (.returned (.slice ao n c)) w1) :=
    ⟨ao, n, c, rfl, ⟨⟨hby.1, fun k hk => by have := hby.2 k hk; simp at this; omega⟩, ((Below.refl _ w).alloc (Nat.le_refl _) _).trans (hbel.mono (by simp))⟩⟩
  clear hby hbel
  go_wp2
  go_ret
  exact G.out

/-- It hands back true; nothing that was there has turned. -/
def IsTrue (w : World) (e : Ending) (w' : World) : Prop := e = .returned (.bool true) ∧ Below w.heap.size w w'

set_option maxRecDepth 100000 in
theorem works_any (w : World) : Calls Tryz.prog 13 #[] w fun e w' => IsTrue w e w' := by
  have H := implUvarint_any 1 w (by decide)
  go_enter Tryz.func13, Tryz.ntmps13
  go_wp2_with fail
  refine H.mono ?_
  clear H
  rintro e w1 ⟨ao, n, c, rfl, ⟨⟨hown, _⟩, hbel⟩⟩
  have hst := run_string_of_owned (P := Tryz.prog) 63 5 9 Tryz.underlying63 Tryz.underlying5 Tryz.underlying9 hown
  have G := Lib.hid hbel
  clear hown hbel
  go_wp2
  go_ret
  exact ⟨by show Ending.returned (.bool ((str (encU 8 1)).toList == [1])) = _; rw [show ((str (encU 8 1)).toList == [1]) = true from by decide +kernel], G.out⟩
end Go.Proofs.YtnmbjalojgccmaaGreat
end
