/-
  FnVarfloat and FnUvarint, for every argument, where the library's table reads as its text lays it: the rows, and their cards.
-/
import Derived.Test.YtgjlbodclfhlfaaDoorRows
import Derived.Test.YtgjlbodclfhlfaaDoorCards
import Derived.Test.YtgjlbodclfhlfaaDoorTie
import Derived.Test.YtgjlbodclfhlfaaDoorLawUMain
import Derived.Test.YtgjlbodclfhlfaaDoorByteArg
import Derived.Test.YtgjlbodclfhlfaaDoorPost
import Derived.WalkKit
import Derived.ProofKit
import Derived.OpenShut
import Derived.Deep.DeepHandedRow
import Derived.Lib.LaidTab
namespace Go.Proofs.YtgjlbodclfhlfaaDoor
open Go.ChangeShapes Go.WideShapes Go.ChangeAt Go.RowKit

theorem Tryd.own : ownKnob Tryd.prog.godebug = none := by kernel_rfl
theorem Tryd.laidOut : laidOutB Tryd.prog = true := by kernel_rfl
theorem gTab : Tryd.prog.globalNamed "math/bits.deBruijn64tab" = some 1 := by kernel_rfl
theorem gTabType : (Tryd.prog.globals[1]?).map (·.type) = some 65 := by kernel_rfl
theorem cellsTab : Tryd.prog.cellsOf 65 = 64 := by kernel_rfl

/-- The table's numbers, as integers. -/
def tabInts : List Int := [0, 1, 56, 2, 57, 49, 28, 3, 61, 58, 42, 50, 38, 29, 17, 4, 62, 47, 59, 36, 45, 43, 51, 22, 53, 39, 33, 30, 24, 18, 12, 5,
  63, 55, 48, 27, 60, 41, 37, 16, 46, 35, 44, 21, 52, 32, 23, 11, 54, 26, 40, 15, 34, 20, 31, 10, 25, 14, 19, 9, 13, 8, 7, 6]
theorem tabInts_at : ∀ j, j < 64 → tabInts.getD j 0 = ((Lib.deBruijn64tab.getD j 0 : Nat) : Int) := by decide +kernel
theorem tabInts_is : (tabInts.map fun z => (DataW.lit (.int .u8 z) : DataW Unit)) = Lib.deBruijn64tab.map fun n => .lit (.int .u8 (n : Int)) := by kernel_rfl

theorem table {W : World} (h : laidMetH Tryd.prog [("math/bits.deBruijn64tab", Rows.laid_math_bits_deBruijn64tab)] W) : TabAt W ∧ 1 < W.heap.size := by
  have hT : Lib.TabIs Tryd.prog W "math/bits.deBruijn64tab" .u8 tabInts :=
    Lib.tabIs_of_head (rest := []) (zs := tabInts) gTab gTabType Tryd.underlying65 Tryd.underlying5 Tryd.cellsU8 cellsTab h
  have hc : ∀ j, j < 64 → W.cell? ⟨1, j, none⟩ = some (.int .u8 (Lib.deBruijn64tab.getD j 0 : Nat)) := by
    intro j hj
    rw [← tabInts_at j hj]
    exact hT.cell gTab j hj
  refine ⟨fun j hj => hc j (by simpa [Lib.deBruijn64tab] using hj), ?_⟩
  exact World.block_lt_of_cell? W _ (hc 0 (by decide))

theorem fnVarfloat_any (fb c : Nat) (ys : List Nat) (ao : Option Addr) (w : World) (hby : ∀ x ∈ ys, x < 256) (hy : Lies w ao ys) (hT : TabAt w) (hg : 1 < w.heap.size) :
    Calls Tryd.prog 3 #[.float .f64 fb, .slice ao ys.length c] w fun e w' => IsTrue w e w' := by
  by_cases h : 2147483647 < ys.length
  · exact fnVarfloat_big fb ys.length c ao w h
  · cases h1 : (FloatKind.f64.format.order fb 0 == some .gt || FloatKind.f64.format.order fb 0 == some .eq)
    · exact fnVarfloat_out fb ys.length c ao w (by omega) (by rw [h1]; rfl)
    · cases h2 : (FloatKind.f64.format.order fb 4841369599423283200 == some .lt || FloatKind.f64.format.order fb 4841369599423283200 == some .eq)
      · exact fnVarfloat_out fb ys.length c ao w (by omega) (by rw [h1, h2]; rfl)
      · by_cases h3 : 50 < ys.length
        · exact fnVarfloat_long fb ys.length c ao w (by omega) h3 h1 h2
        · exact fnVarfloat_in fb c ys ao w (by omega) hby hy hT hg h1 h2

theorem fnUvarint_any (n m : Int) (c : Nat) (ys : List Nat) (ao : Option Addr) (w : World) (wn : (Lit.int .u64 n).wf = true) (wm : (Lit.int .i64 m).wf = true) (hby : ∀ x ∈ ys, x < 256) (hy : Lies w ao ys) (hT : TabAt w) (hg : 1 < w.heap.size) :
    Calls Tryd.prog 4 #[.int .u64 n, .int .i64 m, .slice ao ys.length c] w fun e w' => IsTrue w e w' := by
  have hb : 0 ≤ n ∧ n < 18446744073709551616 := by have h := bounds_u64 wn; omega
  have hm : -9223372036854775808 ≤ m ∧ m ≤ 9223372036854775807 := by
    simp [Lit.wf, IntKind.min, IntKind.max, IntKind.signed, IntKind.bits] at wm
    omega
  obtain ⟨k, rfl⟩ : ∃ k : Nat, n = k := ⟨n.toNat, by omega⟩
  by_cases h : 2147483647 < ys.length
  · exact fnUvarint_big k ys.length c m ao w h
  · by_cases h3 : 50 < ys.length
    · exact fnUvarint_long k ys.length c m ao w (by omega) h3
    · exact fnUvarint_in k c m ys ao w (by omega) hm.1 hm.2 (by omega) hby hy hT hg

/-- A world for the witness: the settled one, the table's block holding what its text lays. -/
noncomputable def laidWorld (os : Os) : World :=
  { World.holding Tryd.prog os ⟨#[], #[], []⟩ with heap := (World.holding Tryd.prog os ⟨#[], #[], []⟩).heap.modify 1 fun
      | .cells _ t frozen => .cells (tabInts.map fun z => Value.int .u8 z).toArray t frozen
      | o => o }

theorem laid_metV (os : Os) : laidMet Tryd.prog Rows.fnVarfloatRow.laid ((laidWorld os).forCall (fun _ _ => 0) ⟨#[], #[.float .f64 0, .slice none 0 0], []⟩).memory :=
  laidMet_of_run' 8 (by kernel_rfl) (by kernel_rfl)
theorem readsV (os : Os) {H : Type} (enc : TypeId × Value → H) : ∃ places, DataW.whole enc Tryd.prog ((laidWorld os).forCall (fun _ _ => 0) ⟨#[], #[.float .f64 0, .slice none 0 0], []⟩).memory Tryd.f3.params.toList Rows.fnVarfloatSpec.vars false #[Value.float .f64 0, .slice none 0 0].toList 8 = some ([.lit (.float .f64 0), .nil], [], places) :=
  ⟨[], by kernel_rfl⟩
theorem laid_metU (os : Os) : laidMet Tryd.prog Rows.fnUvarintRow.laid ((laidWorld os).forCall (fun _ _ => 0) ⟨#[], #[.int .u64 0, .int .i64 0, .slice none 0 0], []⟩).memory :=
  laidMet_of_run' 8 (by kernel_rfl) (by kernel_rfl)
theorem readsU (os : Os) {H : Type} (enc : TypeId × Value → H) : ∃ places, DataW.whole enc Tryd.prog ((laidWorld os).forCall (fun _ _ => 0) ⟨#[], #[.int .u64 0, .int .i64 0, .slice none 0 0], []⟩).memory Tryd.f4.params.toList Rows.fnUvarintSpec.vars false #[Value.int .u64 0, .int .i64 0, .slice none 0 0].toList 8 = some ([.lit (.int .u64 0), .lit (.int .i64 0), .nil], [], places) :=
  ⟨[], by kernel_rfl⟩

theorem contractV (H : Type) (enc : TypeId × Value → H) (W : World) (base : Nat) (args : Array Value) (ds gs : List (DataW H)) (before : List MemPlace)
    (hval : ∀ (j : Nat) t v, Tryd.f3.params[j]? = some t → args[j]? = some v → Value.okWide Tryd.prog W .any base t v)
    (hW : DataW.Whole enc Tryd.prog Tryd.f3.params.toList Rows.fnVarfloatSpec.vars false W args.toList ds gs before) (hL : laidMetH Tryd.prog Rows.fnVarfloatRow.laid W) :
    Calls Tryd.prog 3 args W fun e W' => ∃ v, e = .returned v ∧ Rows.fnVarfloatSpec.post enc Tryd.prog Tryd.f3 false true false false W args v W' := by
  have hW' := hW
  obtain ⟨p, q, hA0, hV, rfl, hfz, hnd⟩ := hW
  have hA : DataW.TrodAll enc Tryd.prog W 0 (fun _ => true) true Tryd.f3.params.toList args.toList ds p := hA0
  rw [Tryd.params3] at hA hval
  obtain ⟨v0, v1, d0, d1, p0, p1, rfl, rfl, rfl, h0, h1⟩ := trodAll_two hA
  obtain ⟨rfl, rfl⟩ := trodVars_none hV
  obtain ⟨a, rfl, rfl, rfl, wa⟩ := open_float Tryd.underlying22 (hval 0 22 v0 rfl rfl) h0
  obtain ⟨ao, c, ys, rfl, hy, hby⟩ := open_lies (hval 1 23 v1 rfl rfl) h1
  obtain ⟨hT, hg⟩ := table hL
  clear hA0
  simp only [List.append_nil, List.nil_append] at hW'
  have hlt : ∀ x ∈ p1, x.block < W.heap.size := fun x hx => by simpa using hW'.lt x hx
  refine (fnVarfloat_any a c ys ao W hby hy hT hg).mono fun e W' ⟨he, hb⟩ => ?_
  subst he
  refine ⟨_, rfl, post_of_below (pa := p1) (pv := []) hW' (fun _ _ _ => trodAll_mk1 (shut_bool Tryd.underlying4 _)) (fun sp hsp => ?_) (fun _ _ => rfl) (by simp) hb
    (ok_one (by kernel_rfl) rfl (okWide_bool_mk Tryd.underlying4 _))⟩
  have := trodAll_mk2 (shut_float (enc := enc) (w := W') (base := 0) (spare := sp) (held := true) Tryd.underlying22 wa) (WideElems.Trod_stays Tryd.laidOut (by kernel_rfl) (of_decide_eq_true (by kernel_rfl)) h1 (fun x hx => hb.same (hlt x hx)) (fun x hx => hsp x (by simpa using hx)))
  simp only [List.nil_append, List.append_nil] at this
  exact this

theorem contractU (H : Type) (enc : TypeId × Value → H) (W : World) (base : Nat) (args : Array Value) (ds gs : List (DataW H)) (before : List MemPlace)
    (hval : ∀ (j : Nat) t v, Tryd.f4.params[j]? = some t → args[j]? = some v → Value.okWide Tryd.prog W .any base t v)
    (hW : DataW.Whole enc Tryd.prog Tryd.f4.params.toList Rows.fnUvarintSpec.vars false W args.toList ds gs before) (hL : laidMetH Tryd.prog Rows.fnUvarintRow.laid W) :
    Calls Tryd.prog 4 args W fun e W' => ∃ v, e = .returned v ∧ Rows.fnUvarintSpec.post enc Tryd.prog Tryd.f4 false true false false W args v W' := by
  have hW' := hW
  obtain ⟨p, q, hA0, hV, rfl, hfz, hnd⟩ := hW
  have hA : DataW.TrodAll enc Tryd.prog W 0 (fun _ => true) true Tryd.f4.params.toList args.toList ds p := hA0
  rw [Tryd.params4] at hA hval
  obtain ⟨v0, v1, v2, d0, d1, d2, p0, p1, p2, rfl, rfl, rfl, h0, h1, h2⟩ := trodAll_three hA
  obtain ⟨rfl, rfl⟩ := trodVars_none hV
  obtain ⟨a, rfl, rfl, rfl, wa⟩ := open_int Tryd.underlying28 (hval 0 28 v0 rfl rfl) h0
  obtain ⟨b, rfl, rfl, rfl, wb⟩ := open_int Tryd.underlying2 (hval 1 2 v1 rfl rfl) h1
  obtain ⟨ao, c, ys, rfl, hy, hby⟩ := open_lies (hval 2 23 v2 rfl rfl) h2
  obtain ⟨hT, hg⟩ := table hL
  clear hA0
  simp only [List.append_nil, List.nil_append] at hW'
  have hlt : ∀ x ∈ p2, x.block < W.heap.size := fun x hx => by simpa using hW'.lt x hx
  refine (fnUvarint_any a b c ys ao W wa wb hby hy hT hg).mono fun e W' ⟨he, hb⟩ => ?_
  subst he
  refine ⟨_, rfl, post_of_below (pa := p2) (pv := []) hW' (fun _ _ _ => trodAll_mk1 (shut_bool Tryd.underlying4 _)) (fun sp hsp => ?_) (fun _ _ => rfl) (by simp) hb
    (ok_one (by kernel_rfl) rfl (okWide_bool_mk Tryd.underlying4 _))⟩
  have := trodAll_mk3 (shut_int (enc := enc) (w := W') (base := 0) (spare := sp) (held := true) Tryd.underlying28 wa) (shut_int (enc := enc) (w := W') (base := 0) (spare := sp) (held := true) Tryd.underlying2 wb) (WideElems.Trod_stays Tryd.laidOut (by kernel_rfl) (of_decide_eq_true (by kernel_rfl)) h2 (fun x hx => hb.same (hlt x hx)) (fun x hx => hsp x (by simpa using hx)))
  simp only [List.nil_append, List.append_nil] at this
  exact this

set_option maxRecDepth 100000 in
theorem liftedV (os : Os) (started : os.Started) (H : Type) (enc : TypeId × Value → H) (F : Stop.Interp) :
    ReturnsInHanded {} Tryd.checked os 3 .any ((OpenSpec.ofChange Rows.fnVarfloatSpec).preRow enc Tryd.prog Tryd.f3 Rows.fnVarfloatRow.domain false Rows.fnVarfloatRow.laid) (((OpenSpec.ofChange Rows.fnVarfloatSpec).at F).post enc Tryd.prog Tryd.f3 false true false false) := by
  obtain ⟨places, hx⟩ := readsV os enc
  refine returnsInHanded_of_row (C := Tryd.checked) (s := OpenSpec.ofChange Rows.fnVarfloatSpec) Tryd.own started (by kernel_rfl) Tryd.func3
    (witness_row_at (enc := enc) (C := Tryd.checked) false (laidWorld os) #[.float .f64 0, .slice none 0 0] rfl (by kernel_rfl) (by kernel_rfl) (by kernel_rfl)
      (OpenSpec.preRow_of_cond 8 hx (by kernel_rfl) (fun k hk => by cases hk) (by kernel_rfl) (laid_metV os))) ?_
  intro W base args ds gs before hval hW _ _ _ hL _ _
  exact contractV H enc W base args ds gs before hval hW hL

set_option maxRecDepth 100000 in
theorem liftedU (os : Os) (started : os.Started) (H : Type) (enc : TypeId × Value → H) (F : Stop.Interp) :
    ReturnsInHanded {} Tryd.checked os 4 .any ((OpenSpec.ofChange Rows.fnUvarintSpec).preRow enc Tryd.prog Tryd.f4 Rows.fnUvarintRow.domain false Rows.fnUvarintRow.laid) (((OpenSpec.ofChange Rows.fnUvarintSpec).at F).post enc Tryd.prog Tryd.f4 false true false false) := by
  obtain ⟨places, hx⟩ := readsU os enc
  refine returnsInHanded_of_row (C := Tryd.checked) (s := OpenSpec.ofChange Rows.fnUvarintSpec) Tryd.own started (by kernel_rfl) Tryd.func4
    (witness_row_at (enc := enc) (C := Tryd.checked) false (laidWorld os) #[.int .u64 0, .int .i64 0, .slice none 0 0] rfl (by kernel_rfl) (by kernel_rfl) (by kernel_rfl)
      (OpenSpec.preRow_of_cond 8 hx (by kernel_rfl) (fun k hk => by cases hk) (by kernel_rfl) (laid_metU os))) ?_
  intro W base args ds gs before hval hW _ _ _ hL _ _
  exact contractU H enc W base args ds gs before hval hW hL

theorem saidV : Rows.FnVarfloatSaid :=
  OpenClaim.holds_of_cond 3 Tryd.f3 rfl rfl rfl rfl rfl rfl rfl ⟨rfl, rfl, rfl, rfl, rfl⟩ rfl rfl rfl rfl rfl (by kernel_rfl) Tryd.func3 (by kernel_rfl)
    (of_decide_eq_true (by kernel_rfl)) (by unfold Func.isWrapper; first | (rw [if_pos (by decide +kernel)]; kernel_rfl) | (rw [if_neg (by decide +kernel)]; exact ⟨rfl, rfl⟩))
    (fun os started H enc _ F => by rw [OpenClaim.pre_eq_preRow]; exact liftedV os started H enc F)
theorem saidU : Rows.FnUvarintSaid :=
  OpenClaim.holds_of_cond 4 Tryd.f4 rfl rfl rfl rfl rfl rfl rfl ⟨rfl, rfl, rfl, rfl, rfl⟩ rfl rfl rfl rfl rfl (by kernel_rfl) Tryd.func4 (by kernel_rfl)
    (of_decide_eq_true (by kernel_rfl)) (by unfold Func.isWrapper; first | (rw [if_pos (by decide +kernel)]; kernel_rfl) | (rw [if_neg (by decide +kernel)]; exact ⟨rfl, rfl⟩))
    (fun os started H enc _ F => by rw [OpenClaim.pre_eq_preRow]; exact liftedU os started H enc F)

theorem plainV (f : FuncId) (fn : Func) (hf : Tryd.pinned.checked.prog.funcNamed "ddsketch/laws.FnVarfloat" = some f) (hfn : Tryd.pinned.checked.prog.funcs[f]? = some fn) :
    false = Tryd.pinned.checked.prog.looks [] ∧ ∀ (j : Nat) t, fn.params[j]? = some t → Tryd.pinned.checked.prog.wantsStandIn t = false := by
  obtain rfl : f = 3 := Option.some.inj ((show Tryd.prog.funcNamed "ddsketch/laws.FnVarfloat" = some 3 by kernel_rfl).symm.trans hf) |>.symm
  obtain rfl : fn = Tryd.f3 := (Option.some.inj (Tryd.func3.symm.trans hfn)).symm
  refine ⟨by kernel_rfl, fun j t ht => ?_⟩
  rw [Tryd.params3] at ht
  have h2 : t = 22 ∨ t = 23 := by simpa using Array.mem_of_getElem? ht
  rcases h2 with rfl | rfl
  · exact (show Tryd.prog.wantsStandIn 22 = false by kernel_rfl)
  · exact (show Tryd.prog.wantsStandIn 23 = false by kernel_rfl)
theorem plainU (f : FuncId) (fn : Func) (hf : Tryd.pinned.checked.prog.funcNamed "ddsketch/laws.FnUvarint" = some f) (hfn : Tryd.pinned.checked.prog.funcs[f]? = some fn) :
    false = Tryd.pinned.checked.prog.looks [] ∧ ∀ (j : Nat) t, fn.params[j]? = some t → Tryd.pinned.checked.prog.wantsStandIn t = false := by
  obtain rfl : f = 4 := Option.some.inj ((show Tryd.prog.funcNamed "ddsketch/laws.FnUvarint" = some 4 by kernel_rfl).symm.trans hf) |>.symm
  obtain rfl : fn = Tryd.f4 := (Option.some.inj (Tryd.func4.symm.trans hfn)).symm
  refine ⟨by kernel_rfl, fun j t ht => ?_⟩
  rw [Tryd.params4] at ht
  have h2 : t = 28 ∨ t = 2 ∨ t = 23 := by simpa using Array.mem_of_getElem? ht
  rcases h2 with rfl | rfl | rfl
  · exact (show Tryd.prog.wantsStandIn 28 = false by kernel_rfl)
  · exact (show Tryd.prog.wantsStandIn 2 = false by kernel_rfl)
  · exact (show Tryd.prog.wantsStandIn 23 = false by kernel_rfl)

theorem fnVarfloat_card : Rows.FnVarfloatCardSaid :=
  Claim7.holds_tied_plain_at .later [] _ _ _ _ saidV (fun _ h => by cases h) (by kernel_rfl) (fun _ h => by cases h) fnVarfloat_row_tie rfl ⟨rfl, rfl⟩ (by kernel_rfl) rfl plainV (by kernel_rfl)
theorem fnUvarint_card : Rows.FnUvarintCardSaid :=
  Claim7.holds_tied_plain_at .later [] _ _ _ _ saidU (fun _ h => by cases h) (by kernel_rfl) (fun _ h => by cases h) fnUvarint_row_tie rfl ⟨rfl, rfl⟩ (by kernel_rfl) rfl plainU (by kernel_rfl)
#print axioms fnVarfloat_card
#print axioms fnUvarint_card
end Go.Proofs.YtgjlbodclfhlfaaDoor
